/-
  GetZero, GetCoefficient, Inverse, BuildMonomial, MultiplyByMonomial, walked. No condition beyond the bounds that each theorem states.
-/
import Derived.Test.YtiielblnmfeapaaRSD
import Derived.Test.YtiielblnmfeapaaGFC
import Derived.Deep.RegionHeld3
namespace Go.Proofs.Ytiielblnmfeapaa
open Go.RowKit Go.Qz Go.Qz.RS
set_option linter.unusedVariables false

set_option maxRecDepth 100000 in
set_option maxHeartbeats 1600000 in
theorem gfZero (Q : Nat → Prop) (F : Fld) (f : Nat) (w : World) (h : GFQ w Q f F) :
    Calls Try.prog 71 #[.pointer (some ⟨f, 0, none⟩)] w fun e w' => (∃ z, e = .returned (.pointer (some ⟨z, 0, none⟩)) ∧ PolyQ w Q z f [0]) ∧ w = w' := by
  obtain ⟨eb, lb, z, c0, c1, c2, c4, he, hl, hz⟩ := gfq_cells h
  have HZ := Lib.hid hz
  clear h c0 c1 c4 he hl hz
  go_enter Try.func71, Try.ntmps71
  go_wp2_with fail
  go_ret
  exact ⟨⟨z, rfl, HZ.out⟩, rfl⟩

set_option maxRecDepth 100000 in
set_option maxHeartbeats 1600000 in
theorem polyCoef (Q : Nat → Prop) (p f : Nat) (cs : List Nat) (d : Nat) (D : Int) (hD : D = d) (x : Nat) (hx : nth cs (cs.length - 1 - d) = x) (hd : d < cs.length) (w : World) (h : PolyQ w Q p f cs) (hn : cs.length < 1000000) :
    Calls Try.prog 68 #[.pointer (some ⟨p, 0, none⟩), .int .i64 D] w fun e w' => e = .returned (.int .i64 (x : Nat)) ∧ ∃ n, w' = w.drewN n := by
  subst hD
  obtain ⟨⟨cb, off, cap, h1, h2, h3, h4, h5⟩, hp, hne⟩ := h
  have hc : w.cell? ⟨p, 1, none⟩ = some (.slice (some ⟨cb, off, none⟩) cs.length cap) := by rw [cell_of_row w p 1 _ _ _ h1]; rfl
  obtain ⟨i, hi⟩ : ∃ i, i = cs.length - 1 - d := ⟨_, rfl⟩
  have h0 := h5 i (by omega)
  rw [← hi] at hx
  rw [hx] at h0
  have hie : IntKind.i64.wrap (IntKind.i64.wrap ((cs.length : Int) - 1) - (d : Int)) = (i : Int) := by rw [IntKind.wrap_i64, IntKind.wrap_i64]; omega
  have hw1 : IntKind.i64.wrap ((cs.length : Int) - 1) = (cs.length : Int) - 1 := by rw [IntKind.wrap_i64]; omega
  have hw2 : IntKind.i64.wrap ((cs.length : Int) - 1 - (d : Int)) = (i : Int) := by rw [IntKind.wrap_i64]; omega
  have hi0 : (0 : Int) ≤ (i : Int) := by omega
  have hi1 : (i : Int) < (cs.length : Int) := by omega
  have hi2 : i < cs.length := by omega
  clear h5 h1 hi hx hne h2 hie
  go_enter Try.func68, Try.ntmps68
  go_wp2_with fail
  go_quiet (fail)
  go_wp2_with fail
  go_ret
  exact ⟨rfl, _, rfl⟩

set_option maxRecDepth 100000 in
set_option maxHeartbeats 1600000 in
theorem gfInv (Q : Nat → Prop) (F : Fld) (hF : Six F) (f a : Nat) (ha : a < F.size) (ha0 : a ≠ 0) (w : World) (h : GFQ w Q f F) :
    Calls Try.prog 74 #[.pointer (some ⟨f, 0, none⟩), .int .i64 a] w fun e w' => e = .returned (.tuple #[.int .i64 (inv F a : Nat), .nilIface]) ∧ ∃ n, w' = w.drewN n := by
  have hs := hF.bounds
  obtain ⟨eb, lb, z, c0, c1, _, c4, he, hl, _⟩ := gfq_cells h
  clear h
  have ha1 : ((a : Int) == 0) = false := by simpa using ha0
  obtain ⟨la0, _⟩ := ex_lg hF (by omega) ha
  have hla := hl a ha
  obtain ⟨x, hx⟩ : ∃ x, x = lg F a := ⟨_, rfl⟩
  rw [← hx] at hla la0
  have hei := he (F.size - x - 1) (by omega)
  have hinv : ex F (F.size - x - 1) = inv F a := by rw [hx]; rfl
  rw [hinv] at hei
  obtain ⟨i, hi⟩ : ∃ i, i = F.size - x - 1 := ⟨_, rfl⟩
  rw [← hi] at hei
  obtain ⟨r, hr⟩ : ∃ r, r = inv F a := ⟨_, rfl⟩
  rw [← hr] at hei ⊢
  have hw1 : IntKind.i64.wrap ((F.size : Int) - (x : Int)) = (F.size : Int) - (x : Int) := by rw [IntKind.wrap_i64]; omega
  have hw2 : IntKind.i64.wrap ((F.size : Int) - (x : Int) - 1) = (i : Int) := by rw [IntKind.wrap_i64]; omega
  have hi0 : (0 : Int) ≤ (i : Int) := by omega
  have hi1 : (i : Int) < (F.size : Int) := by omega
  have hi2 : i < F.size := by omega
  clear hi hr hinv hx he hl ha0
  go_enter Try.func74, Try.ntmps74
  go_wp2_with fail
  go_quiet (fail)
  go_wp2_with fail
  go_ret2
  exact ⟨rfl, _, rfl⟩

theorem zeros_set0 (n c : Nat) : (List.replicate (n + 1) 0).set 0 c = c :: List.replicate n 0 := by rw [List.replicate_succ]; rfl

set_option maxRecDepth 100000 in
set_option maxHeartbeats 1600000 in
theorem gfMono (Q : Nat → Prop) (F : Fld) (hF : Six F) (f k c : Nat) (K : Int) (hK : K = k) (hk : k < 100000) (hc : c < F.size) (w : World) (hQ : ∀ k, w.heap.size ≤ k → Q k) (h : GFQ w Q f F) :
    Calls Try.prog 59 #[.pointer (some ⟨f, 0, none⟩), .int .i64 K, .int .i64 c] w fun e w' => ∃ p, e = .returned (.tuple #[.pointer (some ⟨p, 0, none⟩), .nilIface]) ∧ PolyQ w' Q p f (monL k c) ∧ Below w.heap.size w w' := by
  subst hK
  have hs := hF.bounds
  have hk0 : ¬ (k : Int) < 0 := by omega
  by_cases hc0 : c = 0
  · subst hc0
    obtain ⟨eb, lb, z, c0, c1, c2, c4, he, hl, hz⟩ := gfq_cells h
    have HZ := Lib.hid hz
    clear h c0 c1 c4 he hl hz
    go_enter Try.func59, Try.ntmps59
    go_wp2_with fail
    go_ret2
    exact ⟨z, rfl, HZ.out, Below.refl _ _⟩
  · have hc1 : ((c : Int) == 0) = false := by simpa using hc0
    have hml : monL k c = c :: List.replicate k 0 := by unfold monL; rw [if_neg hc0]
    have HML := Lib.hid hml
    clear hml
    have hmk := fun W => run_make1 (P := Try.prog) 25 3 (.int .i64 0) 8 Try.underlying25 Try.infoInt rfl (by decide) (k + 1) (by omega) .i64 .i64 (k + 1 : Int) (by omega) W
    have harr : (zeros (k + 1) (.int .i64 0)).setIfInBounds 0 (.int .i64 (c : Nat)) = ((c :: List.replicate k 0).map fun x : Nat => Value.int .i64 (x : Int)).toArray := by
      unfold zeros
      rw [List.replicate_succ]
      simp
    have hI : IA (w.alloc (.cells ((zeros (k + 1) (.int .i64 0)).setIfInBounds 0 (.int .i64 (c : Nat))) 3)) 3 w.heap.size (c :: List.replicate k 0) := by
      rw [harr]; exact Arr.new w 3 _
    have hb0 : Below w.heap.size w (w.alloc (.cells ((zeros (k + 1) (.int .i64 0)).setIfInBounds 0 (.int .i64 (c : Nat))) 3)) := (Below.refl _ _).alloc (Nat.le_refl _) _
    obtain ⟨W1, hW1⟩ : ∃ W1, W1 = w.alloc (.cells ((zeros (k + 1) (.int .i64 0)).setIfInBounds 0 (.int .i64 (c : Nat))) 3) := ⟨_, rfl⟩
    rw [← hW1] at hI
    have hsl : SlQ W1 Q (some ⟨w.heap.size, 0, none⟩) (c :: List.replicate k 0) (k + 1) := ⟨by simp, fun _ => ⟨w.heap.size, 0, rfl, hQ _ (Nat.le_refl _), hI.lt, fun j hj => by rw [Nat.zero_add]; exact hI.cell hj⟩⟩
    have hsz : w.heap.size ≤ W1.heap.size := Nat.le_of_lt hI.lt
    have HT := poly_new Q f (some ⟨w.heap.size, 0, none⟩) (c :: List.replicate k 0) (k + 1) W1 (fun k hk => hQ k (by omega)) (by simp) (by simp; omega) hsl
    rw [← HML.out, monL_tidy, HML.out] at HT
    have hlen : (c :: List.replicate k 0).length = k + 1 := by simp
    rw [hlen, ← HML.out, hW1] at HT
    have HT := Lib.hid HT
    clear harr
    clear hI hsl h hlen hc0 hW1
    go_enter Try.func59, Try.ntmps59
    go_wp2_with fail
    refine HT.out.mono ?_
    rintro e w' ⟨p, rfl, hp, hb, _⟩
    go_wp2_with fail
    go_ret2
    exact ⟨p, rfl, hp, hb0.trans (hb.mono (by simp))⟩
end Go.Proofs.Ytiielblnmfeapaa
