/-
  Polynomials and fields as objects: what NewGenericGFPoly makes. No condition beyond the bounds that each theorem states.
-/
import Derived.Test.YtiielblnmfeapaaRows
import Derived.Test.YtiielblnmfeapaaBase
import Derived.Test.YtiielblnmfeapaaGFP
import Derived.WideLaws
import Derived.Deep.DeepCutAuto
namespace Go.Proofs.Ytiielblnmfeapaa
open Go.RowKit Go.Qz Go.Qz.RS
set_option linter.unusedVariables false

/-- Block p is a polynomial of the field f; its own block and that of its coefficients satisfy Q. -/
structure PolyQ (w : World) (Q : Nat → Prop) (p f : Nat) (cs : List Nat) : Prop where
  ex : ∃ cb off cap, w.heap[p]? = some (.cells #[.pointer (some ⟨f, 0, none⟩), .slice (some ⟨cb, off, none⟩) cs.length cap] 131 (0, 0)) ∧ Q cb ∧ cb < w.heap.size ∧ cs.length ≤ cap ∧
    ∀ j, j < cs.length → w.cell? ⟨cb, off + j, none⟩ = some (.int .i64 (nth cs j : Nat))
  q : Q p
  ne : cs ≠ []
theorem PolyQ.mod {S : Nat → Prop} {w w' : World} {Q : Nat → Prop} {p f : Nat} {cs : List Nat} (h : PolyQ w Q p f cs) (hm : Mod S w w') (hq : ∀ k, Q k → ¬ S k) : PolyQ w' Q p f cs := by
  obtain ⟨⟨cb, off, cap, h1, h2, h3, h4, h5⟩, hp, hne⟩ := h
  refine ⟨⟨cb, off, cap, ?_, h2, Nat.lt_of_lt_of_le h3 hm.size, h4, fun j hj => ?_⟩, hp, hne⟩
  · rw [hm.block p (Array.getElem?_eq_some_iff.1 h1).1 (hq p hp)]; exact h1
  · rw [← h5 j hj]; exact World.cell?_of_block (w := w) (hm.block cb h3 (hq cb h2))
theorem PolyQ.below {w w' : World} {Q : Nat → Prop} {p f : Nat} {cs : List Nat} (h : PolyQ w Q p f cs) (hb : Below w.heap.size w w') : PolyQ w' Q p f cs := h.mod (Mod.of_below (S := fun _ => False) hb) (fun _ _ h => h)
theorem PolyQ.imp {w : World} {Q Q' : Nat → Prop} {p f : Nat} {cs : List Nat} (h : PolyQ w Q p f cs) (hq : ∀ k, Q k → Q' k) : PolyQ w Q' p f cs := by
  obtain ⟨⟨cb, off, cap, h1, h2, h3, h4, h5⟩, hp, hne⟩ := h
  exact ⟨⟨cb, off, cap, h1, hq _ h2, h3, h4, h5⟩, hq _ hp, hne⟩
theorem PolyQ.lt {w : World} {Q : Nat → Prop} {p f : Nat} {cs : List Nat} (h : PolyQ w Q p f cs) : p < w.heap.size := by
  obtain ⟨⟨cb, off, cap, h1, _⟩, _⟩ := h
  exact (Array.getElem?_eq_some_iff.1 h1).1

theorem PolyQ.made {w : World} {Q : Nat → Prop} {f cb off n cap : Nat} {cs : List Nat} (hQ : ∀ k, w.heap.size ≤ k → Q k) (hn : n = cs.length) (hq : Q cb) (hlt : cb < w.heap.size) (hc : n ≤ cap) (hne : cs ≠ [])
    (h : ∀ j, j < cs.length → w.cell? ⟨cb, off + j, none⟩ = some (.int .i64 (nth cs j : Nat))) :
    PolyQ (w.alloc (.cells #[.pointer (some ⟨f, 0, none⟩), .slice (some ⟨cb, off, none⟩) n cap] 131)) Q w.heap.size f cs := by
  subst hn
  exact ⟨⟨cb, off, cap, heap_alloc_new w _, hq, by simp; omega, hc, fun j hj => (World.cell?_alloc_past _ _ _ hlt).trans (h j hj)⟩, hQ _ (Nat.le_refl _), hne⟩

/-- A slice whose block satisfies Q. -/
def SlQ (w : World) (Q : Nat → Prop) (A : Option Addr) (l : List Nat) (c : Nat) : Prop :=
  l.length ≤ c ∧ (0 < l.length → ∃ b off, A = some ⟨b, off, none⟩ ∧ Q b ∧ b < w.heap.size ∧ ∀ j, j < l.length → w.cell? ⟨b, off + j, none⟩ = some (.int .i64 (nth l j : Nat)))
theorem SlQ.mod {S : Nat → Prop} {w w' : World} {Q : Nat → Prop} {A : Option Addr} {l : List Nat} {c : Nat} (h : SlQ w Q A l c) (hm : Mod S w w') (hq : ∀ k, Q k → ¬ S k) : SlQ w' Q A l c := by
  refine ⟨h.1, fun h0 => ?_⟩
  obtain ⟨b, off, e, hb, hlt, hc⟩ := h.2 h0
  refine ⟨b, off, e, hb, Nat.lt_of_lt_of_le hlt hm.size, fun j hj => ?_⟩
  rw [← hc j hj]; exact World.cell?_of_block (w := w) (hm.block b hlt (hq b hb))
theorem SlQ.below {w w' : World} {Q : Nat → Prop} {A : Option Addr} {l : List Nat} {c : Nat} (h : SlQ w Q A l c) (hb : Below w.heap.size w w') : SlQ w' Q A l c := h.mod (Mod.of_below (S := fun _ => False) hb) (fun _ _ h => h)
theorem SlQ.rd {w : World} {Q : Nat → Prop} {A : Option Addr} {l : List Nat} {c : Nat} (h : SlQ w Q A l c) : Rd w A l.length (fun j => .int .i64 (nth l j : Nat)) := fun h0 => by
  obtain ⟨b, off, e, _, hlt, hc⟩ := h.2 h0
  exact ⟨b, off, e, hlt, hc⟩

theorem SlQ.lit {w : World} {Q : Nat → Prop} (x b : Nat) (hb : b = w.heap.size) (hq : Q b) : SlQ (w.alloc (.cells #[.int .i64 (x : Nat)] 3)) Q (some ⟨b, 0, none⟩) [x] 1 := by
  subst hb
  refine ⟨Nat.le_refl _, fun _ => ⟨_, 0, rfl, hq, by simp, fun j hj => ?_⟩⟩
  obtain rfl : j = 0 := by simpa using hj
  rw [World.cell?_alloc_at _ _ _ _ (by simp)]
  rfl

/-- An error that errors.New made. -/
def IsErr (v : Value) : Prop := ∃ b : Nat, v = .iface 138 (.pointer (some ⟨b, 0, none⟩))
set_option maxRecDepth 100000 in
theorem err_new (s : ByteArray) (w : World) :
    Calls Try.prog 67 #[.string s] w fun e w' => ∃ v, e = .returned v ∧ IsErr v ∧ Below w.heap.size w w' := by
  go_enter Try.func67, Try.ntmps67
  go_wp2_with fail
  go_ret
  exact ⟨_, rfl, ⟨_, rfl⟩, (Below.refl _ _).alloc (Nat.le_refl _) _⟩
theorem errIface : Try.prog.underlying 52 = some (.interface (Try.prog.methodsAt 52)) := by kernel_rfl

set_option maxRecDepth 100000 in
set_option maxHeartbeats 1600000 in
theorem poly_none (f : Nat) (A : Option Addr) (c : Nat) (w : World) :
    Calls Try.prog 54 #[.pointer (some ⟨f, 0, none⟩), .slice A 0 c] w fun e w' => ∃ v, e = .returned (.tuple #[.pointer none, v]) ∧ IsErr v ∧ Below w.heap.size w w' := by
  go_enter Try.func54, Try.ntmps54
  go_wp2_with fail
  refine (err_new _ _).mono ?_
  rintro e w' ⟨v, rfl, hv, hb⟩
  go_wp2_with fail
  go_ret2
  exact ⟨_, rfl, hv, hb⟩

set_option maxRecDepth 100000 in
set_option maxHeartbeats 1600000 in
theorem poly_new (Q : Nat → Prop) (f : Nat) (A : Option Addr) (l : List Nat) (c : Nat) (w : World) (hQ : ∀ k, w.heap.size ≤ k → Q k) (hl : l ≠ []) (hn : l.length < 1000000000) (h : SlQ w Q A l c) :
    Calls Try.prog 54 #[.pointer (some ⟨f, 0, none⟩), .slice A l.length c] w fun e w' => ∃ p, e = .returned (.tuple #[.pointer (some ⟨p, 0, none⟩), .nilIface]) ∧ PolyQ w' Q p f (tidy l) ∧ Below w.heap.size w w' ∧ w.heap.size ≤ p := by
  have hpos : 0 < l.length := List.length_pos_iff.2 hl
  obtain ⟨b, off, rfl, hqb, hlt, hc⟩ := h.2 hpos
  have hlc := h.1
  have hz0 : ((l.length : Int) == 0) = false := by simpa using (by omega : (l.length : Int) ≠ 0)
  have hc0 := hc 0 hpos
  clear h
  by_cases hd : l.length = 1 ∨ nth l 0 ≠ 0
  · have ht : tidy l = l := by rw [tidy_drop l 0 hpos (fun j hj => by omega) (by rcases hd with h | h; exact .inl (by omega); exact .inr h)]; rfl
    rw [ht]
    by_cases h1 : l.length = 1
    · have hg : (decide ((1 : Int) < (l.length : Int))) = false := by simp; omega
      have hg2 : ¬ ((1 : Int) < (l.length : Int)) := by omega
      have H1 := Lib.hid h1
      have HC := Lib.hid hc
      clear h1 hd hc hc0
      go_enter Try.func54, Try.ntmps54
      go_wp2_with fail
      go_ret2
      exact ⟨_, rfl, PolyQ.made hQ rfl hqb hlt hlc hl HC.out, (Below.refl _ _).alloc (Nat.le_refl _) _, Nat.le_refl _⟩
    · have h2 : nth l 0 ≠ 0 := by rcases hd with h | h; exact absurd h h1; exact h
      have hg2 : (1 : Int) < (l.length : Int) := by omega
      have hg3 : (((nth l 0 : Nat) : Int) == 0) = false := by simpa using (by omega : ((nth l 0 : Nat) : Int) ≠ 0)
      have hc1 : (w.alloc (.cells #[.pointer (some ⟨f, 0, none⟩), .slice none 0 0] 131)).cell? ⟨b, off, none⟩ = some (.int .i64 (nth l 0 : Nat)) := (World.cell?_alloc_past _ _ _ hlt).trans hc0
      have HC := Lib.hid hc
      clear h1 hd hc h2
      go_enter Try.func54, Try.ntmps54
      go_wp2_with fail
      go_ret2
      exact ⟨_, rfl, PolyQ.made hQ rfl hqb hlt hlc hl HC.out, (Below.refl _ _).alloc (Nat.le_refl _) _, Nat.le_refl _⟩
  · have h1 : 1 < l.length := by omega
    have h2 : nth l 0 = 0 := by omega
    rw [h2] at hc0
    have hc1 : (w.alloc (.cells #[.pointer (some ⟨f, 0, none⟩), .slice none 0 0] 131)).cell? ⟨b, off, none⟩ = some (.int .i64 (0 : Nat)) := (World.cell?_alloc_past _ _ _ hlt).trans hc0
    have hcc : ∀ j, j < l.length → (w.alloc (.cells #[.pointer (some ⟨f, 0, none⟩), .slice none 0 0] 131)).cell? ⟨b, off + j, none⟩ = some (.int .i64 (nth l j : Nat)) := fun j hj => (World.cell?_alloc_past _ _ _ hlt).trans (hc j hj)
    have HC := Lib.hid hc
    have HCC := Lib.hid hcc
    have H2 := Lib.hid h2
    clear hc hcc h2 hd
    go_enter Try.func54, Try.ntmps54
    go_wp2_with fail
    go_loop [8] (fun i => ∃ k : Nat, 1 ≤ k ∧ k ≤ l.length ∧ i = .int .i64 k ∧ Hid (∀ j, j < k → nth l j = 0)) (fun i => l.length - (intOf i).toNat)
    case atStart => exact ⟨1, by omega, by omega, rfl, Lib.hid (fun j hj => by rw [show j = 0 by omega]; exact H2.out)⟩
    case round =>
      obtain ⟨k, hk1, hk2, rfl, hall⟩ := hrel
      by_cases hlt2 : k < l.length
      · have hck := HCC.out k hlt2
        by_cases hz : nth l k = 0
        · rw [hz] at hck
          have HZ := Lib.hid hz
          clear hz
          go_wp2_with fail
          go_round
          case rel => exact ⟨k + 1, by omega, by omega, by go_num, Lib.hid (fun j hj => by
            by_cases h : j = k
            · rw [h]; exact HZ.out
            · exact hall.out j (by omega))⟩
          case measure => simp [intOf]; omega
        · have hg3 : (((nth l k : Nat) : Int) == 0) = false := by simpa using (by omega : ((nth l k : Nat) : Int) ≠ 0)
          have hg4 : ((k : Int) == (l.length : Int)) = false := by simpa using (by omega : (k : Int) ≠ (l.length : Int))
          have ht : tidy l = l.drop k := tidy_drop l k hlt2 (fun j hj => by have := hall.out j hj; exact this) (.inr hz)
          have HT := Lib.hid ht
          clear hz ht
          go_wp2_with fail
          go_ret2
          have hd : nth (l.drop k) = fun j => nth l (k + j) := by
            funext j; unfold nth; rw [List.getD_eq_getElem?_getD, List.getElem?_drop, List.getD_eq_getElem?_getD]
          refine ⟨_, rfl, ?_, (Below.refl _ _).alloc (Nat.le_refl _) _, Nat.le_refl _⟩
          rw [HT.out]
          refine PolyQ.made hQ (by simp) hqb hlt (by omega) (by simp; omega) (fun j hj => ?_)
          rw [hd, Nat.add_assoc]
          exact HC.out (k + j) (by simp at hj; omega)
      · obtain rfl : k = l.length := by omega
        have hg4 : ((l.length : Int) == (l.length : Int)) = true := by simp
        have hall2 := hall.out
        have ht : tidy l = [0] := by
          rw [tidy_drop l (l.length - 1) (by omega) (fun j hj => hall2 j (by omega)) (.inl (by omega))]
          rw [drop_nth (by omega), hall2 _ (by omega), show l.length - 1 + 1 = l.length by omega, List.drop_length]
        have HT := Lib.hid ht
        clear ht hall2
        go_wp2_with fail
        go_ret2
        refine ⟨_, rfl, ?_, ((Below.refl _ _).alloc (Nat.le_refl _) _).alloc (by simp) _, Nat.le_refl _⟩
        rw [HT.out]
        refine ⟨⟨w.heap.size + 1, 0, 1, ?_, hQ _ (by omega), by simp, by simp, fun j hj => ?_⟩, hQ _ (Nat.le_refl _), by simp⟩
        · rw [Below.heap_alloc _ _ _ (by simp), heap_alloc_new]; rfl
        · obtain rfl : j = 0 := by simpa using hj
          rw [World.cell?_alloc_at _ _ _ _ (by simp)]
          rfl

/-- Block f is a field; all its blocks satisfy Q. -/
structure GFQ (w : World) (Q : Nat → Prop) (f : Nat) (F : Fld) : Prop where
  ex : ∃ eb lb z o, w.heap[f]? = some (.cells #[.slice (some ⟨eb, 0, none⟩) F.size F.size, .slice (some ⟨lb, 0, none⟩) F.size F.size, .pointer (some ⟨z, 0, none⟩), .pointer (some ⟨o, 0, none⟩), .int .i64 F.size, .int .i64 F.prim, .int .i64 F.base] 128 (0, 0)) ∧
    IA w 3 eb (pre F F.size) ∧ Q eb ∧ IA w 3 lb (logs F (F.size - 1)) ∧ Q lb ∧ PolyQ w Q z f [0] ∧ PolyQ w Q o f [1]
  q : Q f
theorem GFQ.mod {S : Nat → Prop} {w w' : World} {Q : Nat → Prop} {f : Nat} {F : Fld} (h : GFQ w Q f F) (hm : Mod S w w') (hq : ∀ k, Q k → ¬ S k) : GFQ w' Q f F := by
  obtain ⟨⟨eb, lb, z, o, h1, h2, h3, h4, h5, h6, h7⟩, h8⟩ := h
  exact ⟨⟨eb, lb, z, o, (hm.block f (Array.getElem?_eq_some_iff.1 h1).1 (hq f h8)).trans h1, h2.mod hm (hq _ h3), h3, h4.mod hm (hq _ h5), h5, h6.mod hm hq, h7.mod hm hq⟩, h8⟩
theorem GFQ.below {w w' : World} {Q : Nat → Prop} {f : Nat} {F : Fld} (h : GFQ w Q f F) (hb : Below w.heap.size w w') : GFQ w' Q f F := h.mod (Mod.of_below (S := fun _ => False) hb) (fun _ _ h => h)

theorem Try.infoInt : (Try.prog.info? 3).map (fun i => (i.zero, i.size, i.bytes)) = some (some (.int .i64 0), 1, 8) := by kernel_rfl

set_option maxRecDepth 100000 in
set_option maxHeartbeats 3200000 in
theorem gf_new (Q : Nat → Prop) (F : Fld) (P S B : Int) (hP : P = F.prim) (hS : S = F.size) (hB : B = F.base) (h1 : 4 ≤ F.size) (h2 : F.size ≤ 4096) (h3 : F.prim < 8192) (h4 : F.base < 2) (w : World) (hQ : ∀ k, w.heap.size ≤ k → Q k) :
    Calls Try.prog 51 #[.int .i64 P, .int .i64 S, .int .i64 B] w fun e w' => ∃ f, e = .returned (.pointer (some ⟨f, 0, none⟩)) ∧ GFQ w' Q f F ∧ Below w.heap.size w w' ∧ w.heap.size ≤ f := by
  subst hP hS hB
  have hmk := fun W => run_make1 (P := Try.prog) 25 3 (.int .i64 0) 8 Try.underlying25 Try.infoInt rfl (by decide) F.size (by omega) .i64 .i64 F.size rfl W
  go_enter Try.func51, Try.ntmps51
  go_wp2_with fail
  have hA : Arr (((w.alloc (.cells #[.slice none 0 0, .slice none 0 0, .pointer none, .pointer none, .int .i64 F.size, .int .i64 F.prim, .int .i64 F.base] 128)).alloc (.cells (zeros F.size (.int .i64 0)) 3)).alloc (.cells (zeros F.size (.int .i64 0)) 3)) 128 w.heap.size [.slice none 0 0, .slice none 0 0, .pointer none, .pointer none, .int .i64 F.size, .int .i64 F.prim, .int .i64 F.base] := by
    unfold Arr
    rw [Below.heap_alloc _ _ _ (by simp; omega), Below.heap_alloc _ _ _ (by simp), heap_alloc_new]
  have hE := (IA.zeros (w.alloc (.cells #[.slice none 0 0, .slice none 0 0, .pointer none, .pointer none, .int .i64 F.size, .int .i64 F.prim, .int .i64 F.base] 128)) 3 F.size).mod (S := fun _ => False) ((Mod.refl _).alloc (.cells (zeros F.size (.int .i64 0)) 3)) (fun h => h)
  have hL := IA.zeros ((w.alloc (.cells #[.slice none 0 0, .slice none 0 0, .pointer none, .pointer none, .int .i64 F.size, .int .i64 F.prim, .int .i64 F.base] 128)).alloc (.cells (zeros F.size (.int .i64 0)) 3)) 3 F.size
  have hBl : Below w.heap.size w (((w.alloc (.cells #[.slice none 0 0, .slice none 0 0, .pointer none, .pointer none, .int .i64 F.size, .int .i64 F.prim, .int .i64 F.base] 128)).alloc (.cells (zeros F.size (.int .i64 0)) 3)).alloc (.cells (zeros F.size (.int .i64 0)) 3)) :=
    (((Below.refl _ _).alloc (Nat.le_refl _) _).alloc (by simp) _).alloc (by simp; omega) _
  simp only [World.size_alloc] at hE hL
  rw [← pre_zero] at hE
  generalize (((w.alloc (.cells #[.slice none 0 0, .slice none 0 0, .pointer none, .pointer none, .int .i64 F.size, .int .i64 F.prim, .int .i64 F.base] 128)).alloc (.cells (zeros F.size (.int .i64 0)) 3)).alloc (.cells (zeros F.size (.int .i64 0)) 3)) = W3 at *
  obtain ⟨H, hH⟩ : ∃ H, H = w.heap.size := ⟨_, rfl⟩
  rw [← hH] at hA hE hL hBl hQ ⊢
  have HH := Lib.hid hH
  clear hH
  go_loopw [10, 11] (fun x i wr => ∃ k : Nat, k ≤ F.size ∧ i = .int .i64 k ∧ x = .int .i64 (ex F k : Nat) ∧ IA wr 3 (H + 1) (pre F k) ∧ Arr wr 128 H [.slice none 0 0, .slice none 0 0, .pointer none, .pointer none, .int .i64 F.size, .int .i64 F.prim, .int .i64 F.base] ∧ IA wr 3 (H + 1 + 1) (List.replicate F.size 0) ∧ Below H w wr) (fun _ i _ => F.size - (intOf i).toNat)
  case atStart => exact ⟨0, by omega, rfl, rfl, hE, hA, hL, hBl⟩
  case round =>
    obtain ⟨k, hk, rfl, rfl, hE2, hA2, hL2, hB2⟩ := hrel
    clear hA hE hL hBl
    by_cases hlt : k < F.size
    · have hpl : (pre F k).length = F.size := by simp [pre]
      have hc := hE2.cell (j := k) (by omega)
      have hf := hE2.free k
      have HS := hE2.set_ k (ex F k)
      rw [pre_set] at HS
      have hm := Mod.set1 wr (H + 1) k (.int .i64 (ex F k : Nat))
      have HA := Lib.hid (hA2.mod hm (by omega))
      have HL := Lib.hid (hL2.mod hm (by omega))
      have HB := Lib.hid (hB2.setCell (p := ⟨H + 1, k, none⟩) (by dsimp only; omega) (.int .i64 (ex F k : Nat)))
      have HS := Lib.hid HS
      have hx := ex_lt F (by omega) k
      have hst : Hid (ex F (k + 1) = if F.size ≤ 2 * ex F k then (2 * ex F k ^^^ F.prim) &&& (F.size - 1) else 2 * ex F k) := Lib.hid rfl
      clear hE2 hA2 hL2 hB2 hm hpl
      generalize ex F k = x at *
      by_cases hge : F.size ≤ 2 * x
      · have hxl : 2 * x ^^^ F.prim < 2 ^ 13 := Nat.xor_lt_two_pow (by omega) (by omega)
        have hxor : bits .xor .i64 ((x : Int) * 2) (F.prim : Int) = ((2 * x ^^^ F.prim : Nat) : Int) := by
          rw [← i64_xor (2 * x) F.prim (by omega) (by omega)]
          congr 1; omega
        have hand : bits .and .i64 (((2 * x ^^^ F.prim : Nat)) : Int) ((F.size : Int) - 1) = (((2 * x ^^^ F.prim) &&& (F.size - 1) : Nat) : Int) := by
          rw [← i64_and (2 * x ^^^ F.prim) (F.size - 1) (by omega) (by omega)]
          congr 1; omega
        have hx2 : Hid (ex F (k + 1) = (2 * x ^^^ F.prim) &&& (F.size - 1)) := Lib.hid (by rw [hst.out, if_pos hge])
        have hge2 : (F.size : Int) ≤ (x : Int) * 2 := by omega
        clear hst hge
        generalize (2 * x ^^^ F.prim) &&& (F.size - 1) = y at *
        generalize 2 * x ^^^ F.prim = z at *
        go_wp2_with fail
        go_roundw
        case rel => exact ⟨k + 1, by omega, by go_num, by rw [hx2.out], HS.out, HA.out, HL.out, HB.out⟩
        case measure => simp [intOf]; omega
      · have hx2 : Hid (ex F (k + 1) = 2 * x) := Lib.hid (by rw [hst.out, if_neg hge])
        have hge2 : (x : Int) * 2 < F.size := by omega
        clear hst hge
        go_wp2_with fail
        go_roundw
        case rel => exact ⟨k + 1, by omega, by go_num, by rw [hx2.out]; congr 1; omega, HS.out, HA.out, HL.out, HB.out⟩
        case measure => simp [intOf]; omega
    · obtain rfl : k = F.size := by omega
      clear hlt
      go_wp2_with fail
      obtain ⟨W4, hW4⟩ : ∃ W4, W4 = wr := ⟨_, rfl⟩
      rw [← hW4] at hE2 hA2 hL2 hB2 ⊢
      clear hW4
      go_loopw [12] (fun i wr => ∃ k : Nat, k ≤ F.size - 1 ∧ i = .int .i64 k ∧ IA wr 3 (H + 1) (pre F F.size) ∧ Arr wr 128 H [.slice none 0 0, .slice none 0 0, .pointer none, .pointer none, .int .i64 F.size, .int .i64 F.prim, .int .i64 F.base] ∧ IA wr 3 (H + 1 + 1) (logs F k) ∧ Below H w wr) (fun i _ => F.size - (intOf i).toNat)
      case atStart => exact ⟨0, by omega, rfl, hE2, hA2, hL2, hB2⟩
      case round =>
        obtain ⟨k, hk, rfl, hE3, hA3, hL3, hB3⟩ := hrel
        clear hE2 hA2 hL2 hB2
        by_cases hlt : k < F.size - 1
        · have hpl : (pre F F.size).length = F.size := by simp [pre]
          have hc := hE3.cell (j := k) (by omega)
          have hnk : nth (pre F F.size) k = ex F k := by unfold pre; rw [nth_map_range _ _ _ (by omega), if_pos (by omega)]
          rw [hnk] at hc
          have hx := ex_lt F (by omega) k
          have hc2 := hL3.cell (j := ex F k) (by rw [logs_length]; exact hx)
          have hf2 := hL3.free (ex F k)
          have HS := Lib.hid (hL3.set_ (ex F k) k)
          have hm := Mod.set1 wr (H + 1 + 1) (ex F k) (.int .i64 (k : Nat))
          have HA := Lib.hid (hA3.mod hm (by omega))
          have HE := Lib.hid (hE3.mod hm (by omega))
          have HB := Lib.hid (hB3.setCell (p := ⟨H + 1 + 1, ex F k, none⟩) (by dsimp only; omega) (.int .i64 (k : Nat)))
          have hst : Hid (logs F (k + 1) = (logs F k).set (ex F k) k) := Lib.hid rfl
          clear hE3 hA3 hL3 hB3 hm hpl hnk
          generalize ex F k = x at *
          go_wp2_with fail
          go_roundw
          case rel => exact ⟨k + 1, by omega, by go_num, HE.out, HA.out, by rw [hst.out]; exact HS.out, HB.out⟩
          case measure => simp [intOf]; omega
        · obtain rfl : k = F.size - 1 := by omega
          clear hlt
          have c0 := hA3.cell? 0
          have c1 := hA3.cell? 1
          have f0 := hA3.free 0
          have f1 := hA3.free 1
          simp only [List.getElem?_cons_zero, List.getElem?_cons_succ] at c0 c1
          have hm0 := Mod.set1 wr H 0 (.slice (some ⟨H + 1, 0, none⟩) F.size F.size)
          have hm1 := Mod.set1 (wr.setCell ⟨H, 0, none⟩ (.slice (some ⟨H + 1, 0, none⟩) F.size F.size)) H 1 (.slice (some ⟨H + 1 + 1, 0, none⟩) F.size F.size)
          have hm := hm0.trans hm1
          have hA5 := (hA3.set_ 0 (.slice (some ⟨H + 1, 0, none⟩) F.size F.size)).set_ 1 (.slice (some ⟨H + 1 + 1, 0, none⟩) F.size F.size)
          have hE5 := hE3.mod hm (by omega)
          have hL5 := hL3.mod hm (by omega)
          have hB5 := (hB3.setCell (p := ⟨H, 0, none⟩) (Nat.le_refl _) (.slice (some ⟨H + 1, 0, none⟩) F.size F.size)).setCell (p := ⟨H, 1, none⟩) (Nat.le_refl _) (.slice (some ⟨H + 1 + 1, 0, none⟩) F.size F.size)
          simp only [List.set_cons_zero, List.set_cons_succ] at hA5
          clear hm0 hm1 hm hA3 hE3 hL3
          have hsz : H ≤ wr.heap.size := by have := hA5.lt; simp [World.setCell] at this; omega
          have hszz : (((wr.setCell ⟨H, 0, none⟩ (.slice (some ⟨H + 1, 0, none⟩) F.size F.size)).setCell ⟨H, 1, none⟩ (.slice (some ⟨H + 1 + 1, 0, none⟩) F.size F.size))).heap.size = wr.heap.size := by simp [World.setCell]
          go_wp2_with fail
          generalize (wr.setCell ⟨H, 0, none⟩ (.slice (some ⟨H + 1, 0, none⟩) F.size F.size)).setCell ⟨H, 1, none⟩ (.slice (some ⟨H + 1 + 1, 0, none⟩) F.size F.size) = W5 at *
          have hH5 := hA5.lt
          refine (poly_new (fun k => Q k ∧ k ≠ H) H _ [0] 1 _ (fun k hk => ?_) (by simp) (by simp) (SlQ.lit 0 _ hszz.symm ⟨hQ _ hsz, by omega⟩)).mono ?_
          · simp at hk; exact ⟨hQ k (by omega), by omega⟩
          · rintro e W6 ⟨z, rfl, hz, hb6, hzl⟩
            have hm6 := ((Mod.refl (S := fun _ => False) W5).alloc (.cells #[.int .i64 (0 : Nat)] 3)).trans (Mod.of_below hb6)
            have hA6 := hA5.mod hm6 (fun h => h)
            have hE6 := hE5.mod hm6 (fun h => h)
            have hL6 := hL5.mod hm6 (fun h => h)
            have hB6 := (hB5.alloc (by omega) (.cells #[.int .i64 (0 : Nat)] 3)).trans (hb6.mono (by simp; omega))
            have c2 := hA6.cell? 2
            have f2 := hA6.free 2
            simp only [List.getElem?_cons_zero, List.getElem?_cons_succ] at c2
            have hm7 := Mod.set1 W6 H 2 (.pointer (some ⟨z, 0, none⟩))
            have hA7 := hA6.set_ 2 (.pointer (some ⟨z, 0, none⟩))
            simp only [List.set_cons_zero, List.set_cons_succ] at hA7
            have hE7 := hE6.mod hm7 (by omega)
            have hL7 := hL6.mod hm7 (by omega)
            have hz7 := hz.mod hm7 (fun k hk => hk.2)
            have hB7 := hB6.setCell (p := ⟨H, 2, none⟩) (Nat.le_refl _) (.pointer (some ⟨z, 0, none⟩))
            have hs7 : (W6.setCell ⟨H, 2, none⟩ (.pointer (some ⟨z, 0, none⟩))).heap.size = W6.heap.size := by simp [World.setCell]
            clear hm6 hm7 hA6 hE6 hL6 hz hB6 hA5 hE5 hL5 hB5 hb6 c0 c1 f0 f1 hB3
            go_wp2_with fail
            generalize W6.setCell ⟨H, 2, none⟩ (.pointer (some ⟨z, 0, none⟩)) = W7 at *
            have hH7 := hA7.lt
            refine (poly_new (fun k => Q k ∧ k ≠ H) H _ [1] 1 _ (fun k hk => ?_) (by simp) (by simp) (SlQ.lit 1 _ hs7.symm ⟨hQ _ (by omega), by omega⟩)).mono ?_
            · simp at hk; exact ⟨hQ k (by omega), by omega⟩
            · rintro e W8 ⟨o, rfl, ho, hb8, hol⟩
              have hm8 := ((Mod.refl (S := fun _ => False) W7).alloc (.cells #[.int .i64 (1 : Nat)] 3)).trans (Mod.of_below hb8)
              have hA8 := hA7.mod hm8 (fun h => h)
              have hE8 := hE7.mod hm8 (fun h => h)
              have hL8 := hL7.mod hm8 (fun h => h)
              have hz8 := hz7.mod hm8 (fun _ _ h => h)
              have hB8 := (hB7.alloc (by omega) (.cells #[.int .i64 (1 : Nat)] 3)).trans (hb8.mono (by simp; omega))
              have c3 := hA8.cell? 3
              have f3 := hA8.free 3
              simp only [List.getElem?_cons_zero, List.getElem?_cons_succ] at c3
              have hm9 := Mod.set1 W8 H 3 (.pointer (some ⟨o, 0, none⟩))
              have hA9 := hA8.set_ 3 (.pointer (some ⟨o, 0, none⟩))
              simp only [List.set_cons_zero, List.set_cons_succ] at hA9
              have hE9 := hE8.mod hm9 (by omega)
              have hL9 := hL8.mod hm9 (by omega)
              have hz9 := hz8.mod hm9 (fun k hk => hk.2)
              have ho9 := ho.mod hm9 (fun k hk => hk.2)
              have hB9 := hB8.setCell (p := ⟨H, 3, none⟩) (Nat.le_refl _) (.pointer (some ⟨o, 0, none⟩))
              clear hm8 hm9 hA8 hE8 hL8 hz8 hB8 hA7 hE7 hL7 hB7 hb8 hz7 c2 f2
              go_wp2_with fail
              go_ret
              exact ⟨_, rfl, ⟨⟨_, _, _, _, hA9, hE9, hQ _ (by omega), hL9, hQ _ (by omega), hz9.imp (fun _ h => h.1), ho9.imp (fun _ h => h.1)⟩, hQ _ (Nat.le_refl _)⟩, by rw [← HH.out]; exact hB9, by rw [← HH.out]; exact Nat.le_refl _⟩
end Go.Proofs.Ytiielblnmfeapaa
