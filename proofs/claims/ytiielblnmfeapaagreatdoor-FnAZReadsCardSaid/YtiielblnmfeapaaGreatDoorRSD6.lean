/-
  Several texts of this claim in one. No condition beyond the bounds that each theorem states.
-/
import Derived.Test.YtiielblnmfeapaaGreatDoorRSQ
import Derived.Test.YtiielblnmfeapaaGreatDoorGFH
import Derived.Deep.QuietTactic
import Derived.BigQuiet
import Derived.Deep.RegionHeld3
import Derived.Deep.LoopGhost
namespace Go.Proofs.YtiielblnmfeapaaGreatDoor
open Go.RowKit Go.Qz Go.Qz.RS
set_option linter.unusedVariables false

theorem rem_run (a b c : Int) (h0 : ¬ b = 0) (h : a.tmod b = c) (W : World) : (binOp .rem 3 (.int .i64 a) (.int .i64 b)).run Tryz.prog W = .ok (.int .i64 c) W := by
  subst h
  show ((Op.intDiv .rem .i64 a b).run Tryz.prog W) = _
  unfold Op.intDiv
  simp [h0, go_sem]

theorem gfq_cells {Q : Nat → Prop} {F : Fld} {f : Nat} {w : World} (h : GFQ w Q f F) : ∃ eb lb z : Nat, w.cell? ⟨f, 0, none⟩ = some (.slice (some ⟨eb, 0, none⟩) F.size F.size) ∧ w.cell? ⟨f, 1, none⟩ = some (.slice (some ⟨lb, 0, none⟩) F.size F.size) ∧ w.cell? ⟨f, 2, none⟩ = some (.pointer (some ⟨z, 0, none⟩)) ∧
    w.cell? ⟨f, 4, none⟩ = some (.int .i64 F.size) ∧ (∀ i, i < F.size → w.cell? ⟨eb, i, none⟩ = some (.int .i64 (ex F i : Nat))) ∧ (∀ i, i < F.size → w.cell? ⟨lb, i, none⟩ = some (.int .i64 (lg F i : Nat))) ∧ PolyQ w Q z f [0] := by
  obtain ⟨⟨eb, lb, z, o, h1, h2, _, h3, _, h4, _⟩, _⟩ := h
  refine ⟨eb, lb, z, by rw [cell_of_row w f 0 _ _ _ h1]; rfl, by rw [cell_of_row w f 1 _ _ _ h1]; rfl, by rw [cell_of_row w f 2 _ _ _ h1]; rfl, by rw [cell_of_row w f 4 _ _ _ h1]; rfl, fun i hi => ?_, fun i hi => ?_, h4⟩
  · rw [Arr.cell? h2]
    simp [pre, hi]
  · rw [Arr.cell? h3]
    have hl := logs_length F (F.size - 1)
    rw [List.getElem?_map, List.getElem?_eq_getElem (by omega)]
    simp [lg, List.getD_eq_getElem?_getD, hl, hi]

set_option maxRecDepth 100000 in
set_option maxHeartbeats 1600000 in
theorem gfMul (Q : Nat → Prop) (F : Fld) (hF : Six F) (f a b : Nat) (ha : a < F.size) (hb : b < F.size) (w : World) (h : GFQ w Q f F) :
    Calls Tryz.prog 106 #[.pointer (some ⟨f, 0, none⟩), .int .i64 a, .int .i64 b] w fun e w' => e = .returned (.int .i64 (mul F a b : Nat)) ∧ ∃ n, w' = w.drewN n := by
  have hs := hF.bounds
  obtain ⟨eb, lb, z, c0, c1, _, c4, he, hl, _⟩ := gfq_cells h
  clear h
  by_cases ha0 : a = 0
  · subst ha0
    have hm : mul F 0 b = 0 := zero_mul hF b
    rw [hm]
    clear he hl hm
    go_enter Tryz.func106, Tryz.ntmps106
    go_wp2_with fail
    go_ret
    exact ⟨rfl, 0, rfl⟩
  by_cases hb0 : b = 0
  · subst hb0
    have hm : mul F a 0 = 0 := mul_zero hF ha
    have ha1 : ((a : Int) == 0) = false := by simpa using ha0
    rw [hm]
    clear he hl hm
    go_enter Tryz.func106, Tryz.ntmps106
    go_wp2_with fail
    go_ret
    exact ⟨rfl, 0, rfl⟩
  have ha1 : ((a : Int) == 0) = false := by simpa using ha0
  have hb1 : ((b : Int) == 0) = false := by simpa using hb0
  obtain ⟨la0, _⟩ := ex_lg hF (by omega) ha
  obtain ⟨lb0, _⟩ := ex_lg hF (by omega) hb
  have hm := mul_tables hF ha hb ha0 hb0
  have hla := hl a ha
  have hlb := hl b hb
  obtain ⟨x, hx⟩ : ∃ x, x = lg F a := ⟨_, rfl⟩
  obtain ⟨y, hy⟩ : ∃ y, y = lg F b := ⟨_, rfl⟩
  rw [← hx, ← hy] at hm
  rw [← hx] at hla la0
  rw [← hy] at hlb lb0
  obtain ⟨i, hi⟩ : ∃ i, i = (x + y) % (F.size - 1) := ⟨_, rfl⟩
  rw [← hi] at hm
  have hil : i < F.size - 1 := by rw [hi]; exact Nat.mod_lt _ (by omega)
  have hei := he i (by omega)
  rw [hm] at hei
  have hie : ((x : Int) + (y : Int)) % ((F.size : Int) - 1) = (i : Int) := by rw [hi, show (F.size : Int) - 1 = ((F.size - 1 : Nat) : Int) by omega]; simp
  have hit : ((x : Int) + (y : Int)).tmod ((F.size : Int) - 1) = (i : Int) := by rw [Int.tmod_eq_emod_of_nonneg (by omega)]; exact hie
  have hn0 : ¬ (F.size : Int) - 1 = 0 := by omega
  have hrem := fun W => rem_run ((x : Int) + (y : Int)) ((F.size : Int) - 1) (i : Int) hn0 hit W
  have hw1 : IntKind.i64.wrap ((x : Int) + (y : Int)) = (x : Int) + (y : Int) := by rw [IntKind.wrap_i64]; omega
  have hw2 : IntKind.i64.wrap ((F.size : Int) - 1) = (F.size : Int) - 1 := by rw [IntKind.wrap_i64]; omega
  have hi0 : (0 : Int) ≤ (i : Int) := by omega
  have hi1 : (i : Int) < (F.size : Int) := by omega
  have hi2 : i < F.size := by omega
  obtain ⟨r, hr⟩ : ∃ r, r = mul F a b := ⟨_, rfl⟩
  rw [← hr] at hei ⊢
  clear hr hm hx hy hi he hl ha0 hb0
  go_enter Tryz.func106, Tryz.ntmps106
  go_wp2_with fail
  go_quiet (fail)
  go_wp2_with fail
  go_ret
  exact ⟨rfl, _, rfl⟩
end Go.Proofs.YtiielblnmfeapaaGreatDoor
namespace Go.Proofs.YtiielblnmfeapaaGreatDoor
open Go.RowKit Go.Qz Go.Qz.RS
set_option linter.unusedVariables false

set_option maxRecDepth 100000 in
set_option maxHeartbeats 1600000 in
theorem gfZero (Q : Nat → Prop) (F : Fld) (f : Nat) (w : World) (h : GFQ w Q f F) :
    Calls Tryz.prog 108 #[.pointer (some ⟨f, 0, none⟩)] w fun e w' => (∃ z, e = .returned (.pointer (some ⟨z, 0, none⟩)) ∧ PolyQ w Q z f [0]) ∧ w = w' := by
  obtain ⟨eb, lb, z, c0, c1, c2, c4, he, hl, hz⟩ := gfq_cells h
  have HZ := Lib.hid hz
  clear h c0 c1 c4 he hl hz
  go_enter Tryz.func108, Tryz.ntmps108
  go_wp2_with fail
  go_ret
  exact ⟨⟨z, rfl, HZ.out⟩, rfl⟩

set_option maxRecDepth 100000 in
set_option maxHeartbeats 1600000 in
theorem polyCoef (Q : Nat → Prop) (p f : Nat) (cs : List Nat) (d : Nat) (D : Int) (hD : D = d) (x : Nat) (hx : nth cs (cs.length - 1 - d) = x) (hd : d < cs.length) (w : World) (h : PolyQ w Q p f cs) (hn : cs.length < 1000000) :
    Calls Tryz.prog 105 #[.pointer (some ⟨p, 0, none⟩), .int .i64 D] w fun e w' => e = .returned (.int .i64 (x : Nat)) ∧ ∃ n, w' = w.drewN n := by
  subst hD
  obtain ⟨⟨cb, off, cap, h1, h2, h3, h4, h5⟩, hp, hne⟩ := h
  have hc : w.cell? ⟨p, 1, none⟩ = some (.slice (some ⟨cb, off, none⟩) cs.length cap) := by rw [cell_of_row w p 1 _ _ _ h1]; rfl
  obtain ⟨i, hi⟩ : ∃ i, i = cs.length - 1 - d := ⟨_, rfl⟩
  have h0 := h5 i (by omega)
  rw [← hi] at hx
  rw [hx] at h0
  have hie : IntKind.i64.wrap (IntKind.i64.wrap ((cs.length : Int) - 1) - (d : Int)) = (i : Int) := by rw [IntKind.wrap_i64, IntKind.wrap_i64]; omega
  have hw1 : IntKind.i64.wrap ((cs.length : Int) - 1) = (cs.length : Int) - 1 := by rw [IntKind.wrap_i64]; omega
  have hw2 : IntKind.i64.wrap ((cs.length : Int) - 1 - (d : Int)) = (i : Int) := by rw [IntKind.wrap_i64]; omega
  have hi0 : (0 : Int) ≤ (i : Int) := by omega
  have hi1 : (i : Int) < (cs.length : Int) := by omega
  have hi2 : i < cs.length := by omega
  clear h5 h1 hi hx hne h2 hie
  go_enter Tryz.func105, Tryz.ntmps105
  go_wp2_with fail
  go_quiet (fail)
  go_wp2_with fail
  go_ret
  exact ⟨rfl, _, rfl⟩

set_option maxRecDepth 100000 in
set_option maxHeartbeats 1600000 in
theorem gfInv (Q : Nat → Prop) (F : Fld) (hF : Six F) (f a : Nat) (ha : a < F.size) (ha0 : a ≠ 0) (w : World) (h : GFQ w Q f F) :
    Calls Tryz.prog 111 #[.pointer (some ⟨f, 0, none⟩), .int .i64 a] w fun e w' => e = .returned (.tuple #[.int .i64 (inv F a : Nat), .nilIface]) ∧ ∃ n, w' = w.drewN n := by
  have hs := hF.bounds
  obtain ⟨eb, lb, z, c0, c1, _, c4, he, hl, _⟩ := gfq_cells h
  clear h
  have ha1 : ((a : Int) == 0) = false := by simpa using ha0
  obtain ⟨la0, _⟩ := ex_lg hF (by omega) ha
  have hla := hl a ha
  obtain ⟨x, hx⟩ : ∃ x, x = lg F a := ⟨_, rfl⟩
  rw [← hx] at hla la0
  have hei := he (F.size - x - 1) (by omega)
  have hinv : ex F (F.size - x - 1) = inv F a := by rw [hx]; rfl
  rw [hinv] at hei
  obtain ⟨i, hi⟩ : ∃ i, i = F.size - x - 1 := ⟨_, rfl⟩
  rw [← hi] at hei
  obtain ⟨r, hr⟩ : ∃ r, r = inv F a := ⟨_, rfl⟩
  rw [← hr] at hei ⊢
  have hw1 : IntKind.i64.wrap ((F.size : Int) - (x : Int)) = (F.size : Int) - (x : Int) := by rw [IntKind.wrap_i64]; omega
  have hw2 : IntKind.i64.wrap ((F.size : Int) - (x : Int) - 1) = (i : Int) := by rw [IntKind.wrap_i64]; omega
  have hi0 : (0 : Int) ≤ (i : Int) := by omega
  have hi1 : (i : Int) < (F.size : Int) := by omega
  have hi2 : i < F.size := by omega
  clear hi hr hinv hx he hl ha0
  go_enter Tryz.func111, Tryz.ntmps111
  go_wp2_with fail
  go_quiet (fail)
  go_wp2_with fail
  go_ret2
  exact ⟨rfl, _, rfl⟩

theorem zeros_set0 (n c : Nat) : (List.replicate (n + 1) 0).set 0 c = c :: List.replicate n 0 := by rw [List.replicate_succ]; rfl

set_option maxRecDepth 100000 in
set_option maxHeartbeats 1600000 in
theorem gfMono (Q : Nat → Prop) (F : Fld) (hF : Six F) (f k c : Nat) (K : Int) (hK : K = k) (hk : k < 100000) (hc : c < F.size) (w : World) (hQ : ∀ k, w.heap.size ≤ k → Q k) (h : GFQ w Q f F) :
    Calls Tryz.prog 91 #[.pointer (some ⟨f, 0, none⟩), .int .i64 K, .int .i64 c] w fun e w' => ∃ p, e = .returned (.tuple #[.pointer (some ⟨p, 0, none⟩), .nilIface]) ∧ PolyQ w' Q p f (monL k c) ∧ Below w.heap.size w w' := by
  subst hK
  have hs := hF.bounds
  have hk0 : ¬ (k : Int) < 0 := by omega
  by_cases hc0 : c = 0
  · subst hc0
    obtain ⟨eb, lb, z, c0, c1, c2, c4, he, hl, hz⟩ := gfq_cells h
    have HZ := Lib.hid hz
    clear h c0 c1 c4 he hl hz
    go_enter Tryz.func91, Tryz.ntmps91
    go_wp2_with fail
    go_ret2
    exact ⟨z, rfl, HZ.out, Below.refl _ _⟩
  · have hc1 : ((c : Int) == 0) = false := by simpa using hc0
    have hml : monL k c = c :: List.replicate k 0 := by unfold monL; rw [if_neg hc0]
    have HML := Lib.hid hml
    clear hml
    have hmk := fun W => run_make1 (P := Tryz.prog) 24 3 (.int .i64 0) 8 Tryz.underlying24 Tryz.infoInt rfl (by decide) (k + 1) (by omega) .i64 .i64 (k + 1 : Int) (by omega) W
    have harr : (zeros (k + 1) (.int .i64 0)).setIfInBounds 0 (.int .i64 (c : Nat)) = ((c :: List.replicate k 0).map fun x : Nat => Value.int .i64 (x : Int)).toArray := by
      unfold zeros
      rw [List.replicate_succ]
      simp
    have hI : IA (w.alloc (.cells ((zeros (k + 1) (.int .i64 0)).setIfInBounds 0 (.int .i64 (c : Nat))) 3)) 3 w.heap.size (c :: List.replicate k 0) := by
      rw [harr]; exact Arr.new w 3 _
    have hb0 : Below w.heap.size w (w.alloc (.cells ((zeros (k + 1) (.int .i64 0)).setIfInBounds 0 (.int .i64 (c : Nat))) 3)) := (Below.refl _ _).alloc (Nat.le_refl _) _
    obtain ⟨W1, hW1⟩ : ∃ W1, W1 = w.alloc (.cells ((zeros (k + 1) (.int .i64 0)).setIfInBounds 0 (.int .i64 (c : Nat))) 3) := ⟨_, rfl⟩
    rw [← hW1] at hI
    have hsl : SlQ W1 Q (some ⟨w.heap.size, 0, none⟩) (c :: List.replicate k 0) (k + 1) := ⟨by simp, fun _ => ⟨w.heap.size, 0, rfl, hQ _ (Nat.le_refl _), hI.lt, fun j hj => by rw [Nat.zero_add]; exact hI.cell hj⟩⟩
    have hsz : w.heap.size ≤ W1.heap.size := Nat.le_of_lt hI.lt
    have HT := poly_new Q f (some ⟨w.heap.size, 0, none⟩) (c :: List.replicate k 0) (k + 1) W1 (fun k hk => hQ k (by omega)) (by simp) (by simp; omega) hsl
    rw [← HML.out, monL_tidy, HML.out] at HT
    have hlen : (c :: List.replicate k 0).length = k + 1 := by simp
    rw [hlen, ← HML.out, hW1] at HT
    have HT := Lib.hid HT
    clear harr
    clear hI hsl h hlen hc0 hW1
    go_enter Tryz.func91, Tryz.ntmps91
    go_wp2_with fail
    refine HT.out.mono ?_
    rintro e w' ⟨p, rfl, hp, hb, _⟩
    go_wp2_with fail
    go_ret2
    exact ⟨p, rfl, hp, hb0.trans (hb.mono (by simp))⟩
end Go.Proofs.YtiielblnmfeapaaGreatDoor
namespace Go.Proofs.YtiielblnmfeapaaGreatDoor
open Go.RowKit Go.Qz Go.Qz.RS
set_option linter.unusedVariables false

/-- A list that is made from the front. -/
def upTo (n : Nat) (g : Nat → Nat) (i : Nat) : List Nat := (List.range n).map fun j => if j < i then g j else 0
theorem upTo_length (n : Nat) (g : Nat → Nat) (i : Nat) : (upTo n g i).length = n := by simp [upTo]
theorem upTo_nth (n : Nat) (g : Nat → Nat) (i j : Nat) (hj : j < n) : nth (upTo n g i) j = if j < i then g j else 0 := nth_map_range _ _ _ hj
theorem upTo_zero (n : Nat) (g : Nat → Nat) : upTo n g 0 = List.replicate n 0 := by
  apply List.ext_getElem?
  intro i
  by_cases hl : i < n
  · simp [upTo, hl]
  · rw [List.getElem?_eq_none (by simpa [upTo] using hl), List.getElem?_eq_none (by simpa using hl)]
theorem upTo_set (n : Nat) (g : Nat → Nat) (i : Nat) : (upTo n g i).set i (g i) = upTo n g (i + 1) := by
  apply List.ext_getElem?
  intro j
  rw [List.getElem?_set]
  by_cases h : j = i
  · subst h
    by_cases hl : j < n <;> simp [upTo, hl]
  · rw [if_neg (fun e => h e.symm)]
    by_cases hl : j < n
    · simp only [upTo, List.getElem?_map, List.getElem?_range hl, Option.map_some]
      by_cases hk : j < i
      · simp [hk, show j < i + 1 by omega]
      · simp [hk, show ¬ j < i + 1 by omega]
    · rw [List.getElem?_eq_none (by simpa [upTo] using hl), List.getElem?_eq_none (by simpa [upTo] using hl)]
theorem upTo_shf (F : Fld) (l : List Nat) (k c : Nat) : upTo (l.length + k) (fun j => mul F (nth l j) c) l.length = l.map (fun x => mul F x c) ++ List.replicate k 0 := by
  apply List.ext_getElem (by simp [upTo])
  intro j h1 h2
  rw [← nth_eq h1, ← nth_eq h2, upTo_nth _ _ _ _ (by simpa [upTo] using h1), nth_append, List.length_map]
  split
  · rw [nth_map _ _ _ (by assumption)]
  · rw [nth_replicate]; split <;> rfl

set_option maxRecDepth 100000 in
set_option maxHeartbeats 1600000 in
theorem polyMonoQ (Q : Nat → Prop) (F : Fld) (hF : Six F) (p f k c : Nat) (l : List Nat) (K : Int) (hK : K = k) (hk : k < 100000) (hc : c < F.size) (hl : El F l) (hll : l.length < 100000) (w : World) (hQ : ∀ k, w.heap.size ≤ k → Q k) (hp : PolyQ w Q p f l) (hg : GFQ w Q f F) :
    Calls Tryz.prog 113 #[.pointer (some ⟨p, 0, none⟩), .int .i64 K, .int .i64 c] w fun e w' => ∃ r, e = .returned (.tuple #[.pointer (some ⟨r, 0, none⟩), .nilIface]) ∧ PolyQ w' Q r f (shfL F l k c) ∧ Below w.heap.size w w' := by
  subst hK
  have hs := hF.bounds
  have hk0 : ¬ (k : Int) < 0 := by omega
  have HPP := Lib.hid hp
  have HGG := Lib.hid hg
  have HQH := Lib.hid hQ
  clear hQ
  obtain ⟨⟨cb, off, cap, h1, h2, h3, h4, h5⟩, hp1, hpne⟩ := hp
  have c0 : w.cell? ⟨p, 0, none⟩ = some (.pointer (some ⟨f, 0, none⟩)) := by rw [cell_of_row w p 0 _ _ _ h1]; rfl
  have c1 : w.cell? ⟨p, 1, none⟩ = some (.slice (some ⟨cb, off, none⟩) l.length cap) := by rw [cell_of_row w p 1 _ _ _ h1]; rfl
  have hlp := HPP.out.lt
  have hlpos := List.length_pos_iff.2 hpne
  have H5 := Lib.hid h5
  clear h5 h1 hg
  by_cases hc0 : c = 0
  · subst hc0
    have HZ := Lib.hid (gfZero Q F f w HGG.out)
    go_enter Tryz.func113, Tryz.ntmps113
    go_wp2_with fail
    refine HZ.out.mono ?_
    rintro e w' ⟨⟨z, rfl, hz⟩, rfl⟩
    have HZZ := Lib.hid hz
    clear hz
    go_wp2_with fail
    go_ret2
    exact ⟨z, rfl, HZZ.out, Below.refl _ _⟩
  · have hc1 : ((c : Int) == 0) = false := by simpa using hc0
    have hsh : shfL F l k c = tidy (l.map (fun x => mul F x c) ++ List.replicate k 0) := by unfold shfL; rw [if_neg hc0]
    rw [← upTo_shf] at hsh
    obtain ⟨g, hgd⟩ : ∃ g : Nat → Nat, g = fun j => mul F (nth l j) c := ⟨_, rfl⟩
    rw [← hgd] at hsh
    have HSH := Lib.hid hsh
    have HGD := Lib.hid hgd
    clear hsh hgd hc0
    obtain ⟨N, hN⟩ : ∃ N, N = l.length + k := ⟨_, rfl⟩
    rw [← hN] at HSH
    have eN : (l.length : Int) + (k : Int) = (N : Int) := by omega
    have hN1 : l.length ≤ N := by omega
    have hN2 : N < 200000 := by omega
    clear hN
    have hmk := fun W => run_make1 (P := Tryz.prog) 24 3 (.int .i64 0) 8 Tryz.underlying24 Tryz.infoInt rfl (by decide) N (by omega) .i64 .i64 (N : Int) rfl W
    have hI := IA.zeros w 3 N
    rw [← upTo_zero N g] at hI
    have hb0 : Below w.heap.size w (w.alloc (.cells (zeros N (.int .i64 0)) 3)) := (Below.refl _ _).alloc (Nat.le_refl _) _
    go_enter Tryz.func113, Tryz.ntmps113
    go_wp2_with fail
    obtain ⟨M, hM⟩ : ∃ M, M = w.heap.size := ⟨_, rfl⟩
    rw [← hM] at hI hb0 h3 hlp ⊢
    have HMM := Lib.hid hM
    clear hM hmk
    go_loopw [10] (fun i wr => ∃ j : Nat, j ≤ l.length ∧ i = .int .i64 j ∧ IA wr 3 M (upTo N g j) ∧ Below M w wr) (fun i _ => l.length - (intOf i).toNat)
    case atStart => exact ⟨0, by omega, rfl, hI, hb0⟩
    case round =>
      obtain ⟨j, hj, rfl, hI2, hbel⟩ := hrel
      clear hI hb0
      by_cases hlt : j < l.length
      · have hfz := hI2.free j
        have hj0 : (0 : Int) ≤ (j : Int) := by omega
        have hj1 : (j : Int) < (N : Int) := by omega
        have hj2 : j < N := by omega
        have hul := upTo_length N g j
        have hz := hI2.cell (j := j) (by omega)
        rw [upTo_nth _ _ _ _ (by omega), if_neg (by omega)] at hz
        have hI3 := hI2.set_ j (g j)
        rw [upTo_set] at hI3
        have hgj : g j = mul F (nth l j) c := by rw [HGD.out]
        obtain ⟨v, hv⟩ : ∃ v, v = g j := ⟨_, rfl⟩
        rw [← hv] at hI3 hgj
        have hb3 := hbel.setCell (p := ⟨M, j, none⟩) (Nat.le_refl _) (.int .i64 (v : Nat))
        have hS : ∀ W : World, Below M w W → (W.cell? ⟨p, 0, none⟩ = some (.pointer (some ⟨f, 0, none⟩)) ∧ W.cell? ⟨p, 1, none⟩ = some (.slice (some ⟨cb, off, none⟩) l.length cap) ∧ W.cell? ⟨cb, off + j, none⟩ = some (.int .i64 (nth l j : Nat)) ∧ Hid (Below M w W)) := fun W hW =>
          ⟨(hW.cell (p := ⟨p, 0, none⟩) hlp).trans c0, (hW.cell (p := ⟨p, 1, none⟩) hlp).trans c1, (hW.cell (p := ⟨cb, off + j, none⟩) h3).trans (H5.out j hlt), Lib.hid hW⟩
        have HX := Lib.hid (fun (W : World) (hW : W.cell? ⟨p, 0, none⟩ = some (.pointer (some ⟨f, 0, none⟩)) ∧ W.cell? ⟨p, 1, none⟩ = some (.slice (some ⟨cb, off, none⟩) l.length cap) ∧ W.cell? ⟨cb, off + j, none⟩ = some (.int .i64 (nth l j : Nat)) ∧ Hid (Below M w W)) =>
          (gfMul Q F hF f (nth l j) c (hl j) hc W (HGG.out.below (by rw [← HMM.out]; exact hW.2.2.2.out))).mono (R' := fun e w' => e = .returned (.int .i64 (v : Nat)) ∧ ∃ n, w' = W.drewN n) (by rintro e w' ⟨rfl, n, rfl⟩; exact ⟨by rw [hgj], n, rfl⟩))
        have hs0 := hS _ hbel.drew
        have hs2 := hS _ hb3
        have hs3 := fun n => hS _ (below_drewN hb3 n)
        have hs4 := fun n => hS _ (below_drewN hbel n)
        have d0 := hs0.1
        have d1 := hs0.2.1
        have d2 := hs0.2.2.1
        have HI3 := Lib.hid hI3
        have HB3 := Lib.hid hb3
        clear hI2 hI3 hb3 hul hgj hv hbel
        go_wp2_with fail
        go_region_held3 (fun w' => w'.cell? ⟨p, 0, none⟩ = some (.pointer (some ⟨f, 0, none⟩)) ∧ w'.cell? ⟨p, 1, none⟩ = some (.slice (some ⟨cb, off, none⟩) l.length cap) ∧ w'.cell? ⟨cb, off + j, none⟩ = some (.int .i64 (nth l j : Nat)) ∧ Hid (Below M w w'))
          (first | exact hs0 | exact hs2 | exact hs3 _ | exact hs4 _ | go_keep)
          (first | (go_at_call 106; refine (HX.out _ (by assumption)).mono ?_; rintro e w3 ⟨rfl, n, rfl⟩))
        go_wp2_with fail
        go_roundw
        case rel => exact ⟨j + 1, by omega, by go_num, HI3.out.mod (Mod.drewN (Mod.refl (S := fun _ => False) _) _) (fun h => h), below_drewN HB3.out _⟩
        case measure => simp [intOf]; omega
      · obtain rfl : j = l.length := by omega
        have c0' : wr.cell? ⟨p, 0, none⟩ = some (.pointer (some ⟨f, 0, none⟩)) := (hbel.cell (p := ⟨p, 0, none⟩) hlp).trans c0
        have hul := upTo_length N g l.length
        have hsl : SlQ wr Q (some ⟨M, 0, none⟩) (upTo N g l.length) N := ⟨by omega, fun _ => ⟨M, 0, rfl, HQH.out _ (by rw [← HMM.out]; exact Nat.le_refl _), hI2.lt, fun j hj => by rw [Nat.zero_add]; exact hI2.cell hj⟩⟩
        have hsz : M ≤ wr.heap.size := Nat.le_of_lt hI2.lt
        have hne : upTo N g l.length ≠ [] := by intro e; rw [e] at hul; simp at hul; omega
        have HT := poly_new Q f (some ⟨M, 0, none⟩) (upTo N g l.length) N wr (fun k hk => HQH.out k (by have := HMM.out; omega)) hne (by omega) hsl
        rw [hul, ← HSH.out] at HT
        have HT := Lib.hid HT
        clear hI2 hul hsl hne
        go_wp2_with fail
        refine HT.out.mono ?_
        rintro e w' ⟨r, rfl, hr, hb, _⟩
        go_wp2_with fail
        go_ret2
        exact ⟨r, rfl, hr, by rw [← HMM.out]; exact hbel.trans (hb.mono hsz)⟩
theorem polyMono (F : Fld) (hF : Six F) (p f k c : Nat) (l : List Nat) (K : Int) (hK : K = k) (hk : k < 100000) (hc : c < F.size) (hl : El F l) (hll : l.length < 100000) (w : World) (hp : PolyQ w (fun _ => True) p f l) (hg : GFQ w (fun _ => True) f F) :
    Calls Tryz.prog 113 #[.pointer (some ⟨p, 0, none⟩), .int .i64 K, .int .i64 c] w fun e w' => ∃ r, e = .returned (.tuple #[.pointer (some ⟨r, 0, none⟩), .nilIface]) ∧ PolyQ w' (fun _ => True) r f (shfL F l k c) ∧ Below w.heap.size w w' :=
  polyMonoQ _ F hF p f k c l K hK hk hc hl hll w (fun _ _ => trivial) hp hg
end Go.Proofs.YtiielblnmfeapaaGreatDoor
namespace Go.Proofs.YtiielblnmfeapaaGreatDoor
open Go.RowKit Go.Qz Go.Qz.RS
set_option linter.unusedVariables false

theorem quietL {P : Program} {f : FuncId} {args : Array Value} {w : World} {n : Nat} {v : Value}
    (h : Calls P f args (w.drewN n) fun e w' => e = .returned v ∧ w.drewN n = w') : Calls P f args (w.drewN n) fun e w'' => e = .returned v ∧ ∃ m, w'' = w.drewN m :=
  h.mono fun _ _ ⟨he, hm⟩ => ⟨he, n, hm.symm⟩
theorem quietN {P : Program} {f : FuncId} {args : Array Value} {w : World} {n : Nat} {v : Value}
    (h : Calls P f args (w.drewN n) fun e w' => e = .returned v ∧ ∃ m, w' = (w.drewN n).drewN m) : Calls P f args (w.drewN n) fun e w'' => e = .returned v ∧ ∃ m, w'' = w.drewN m :=
  h.mono fun _ _ ⟨he, m, hm⟩ => ⟨he, n + m, by rw [hm, World.drewN_drewN]⟩
theorem PolyQ.drewN {w : World} {Q : Nat → Prop} {p f : Nat} {cs : List Nat} (h : PolyQ w Q p f cs) (n : Nat) : PolyQ (w.drewN n) Q p f cs := h.below (below_drewN (Below.refl _ _) _)
theorem GFQ.drewN {w : World} {Q : Nat → Prop} {f : Nat} {F : Fld} (h : GFQ w Q f F) (n : Nat) : GFQ (w.drewN n) Q f F := h.below (below_drewN (Below.refl _ _) _)

end Go.Proofs.YtiielblnmfeapaaGreatDoor
namespace Go.Proofs.YtiielblnmfeapaaGreatDoor
open Go.RowKit Go.Qz Go.Qz.RS
set_option linter.unusedVariables false

theorem fcells {w : World} {H : Nat} {F : Fld} (h : Arr w 71 H [.int .i64 F.prim, .int .i64 F.size, .int .i64 F.base]) :
    w.cell? ⟨H, 0, none⟩ = some (.int .i64 F.prim) ∧ w.cell? ⟨H, 1, none⟩ = some (.int .i64 F.size) ∧ w.cell? ⟨H, 2, none⟩ = some (.int .i64 F.base) := by
  have d0 := h.cell? 0
  have d1 := h.cell? 1
  have d2 := h.cell? 2
  simp only [List.getElem?_cons_zero, List.getElem?_cons_succ] at d0 d1 d2
  exact ⟨d0, d1, d2⟩

set_option maxRecDepth 100000 in
set_option maxHeartbeats 1600000 in
theorem rsZero (l : List Nat) (hl : l ≠ []) (hn : l.length < 1000000) (A : Option Addr) (c : Nat) (z : Bool) (hz : z = decide (l = [0])) (w : World) (h : Rd w A l.length (fun j => .int .i64 (nth l j : Nat))) :
    Calls Tryz.prog 77 #[.slice A l.length c] w fun e w' => e = .returned (.bool z) ∧ w = w' := by
  have hp := List.length_pos_iff.2 hl
  obtain ⟨b, off, rfl, hb, hc⟩ := h hp
  have c0 := hc 0 hp
  rw [Nat.add_zero] at c0
  dsimp only at c0
  clear h hc
  by_cases h1 : l.length = 1
  · by_cases h0 : nth l 0 = 0
    · have hz2 : z = true := by
        rw [hz]; simp only [decide_eq_true_eq]
        apply List.ext_getElem (by simpa using h1)
        intro i hi1 hi2
        have : i = 0 := by omega
        subst this
        rw [← nth_eq hi1, h0]; rfl
      subst hz2
      clear hz
      rw [h0] at c0
      rw [h1]
      clear h1 h0 hp hn
      go_enter Tryz.func77, Tryz.ntmps77
      go_wp2_with fail
      go_ret
      exact ⟨rfl, rfl⟩
    · have hz2 : z = false := by
        rw [hz]; simp only [decide_eq_false_iff_not]
        intro e; rw [e] at h0; exact h0 rfl
      subst hz2
      clear hz
      have h2 : (((nth l 0 : Nat) : Int) == 0) = false := by simpa using h0
      rw [h1]
      clear h1 h0 hp hn
      go_enter Tryz.func77, Tryz.ntmps77
      go_wp2_with fail
      go_ret
      exact ⟨rfl, rfl⟩
  · have hz2 : z = false := by
      rw [hz]; simp only [decide_eq_false_iff_not]
      intro e; rw [e] at h1; exact h1 rfl
    subst hz2
    clear hz
    have h2 : ((l.length : Int) == 1) = false := by simp; omega
    clear h1
    go_enter Tryz.func77, Tryz.ntmps77
    go_wp2_with fail
    go_ret
    exact ⟨rfl, rfl⟩

end Go.Proofs.YtiielblnmfeapaaGreatDoor
