/-
  Data Matrix: the engine's symbols and what they tell, walked (printed by genDMT.py). No condition beyond the bounds that each theorem states.
-/
import Derived.Test.YtcadknfcahmdcaaGreatDSZ
import Derived.Test.YtcadknfcahmdcaaGreatDWE
import Derived.Laws.EntriesVeiled
namespace Go.Proofs.YtcadknfcahmdcaaGreat
open Go.RowKit Go.Qz
set_option linter.unusedVariables false

def symC (r : Bool) (d e a b c x y : Int) : List Value := [.bool r, .int .i64 d, .int .i64 e, .int .i64 a, .int .i64 b, .int .i64 c, .int .i64 x, .int .i64 y, .func (.func 78) #[] #[], .func (.func 79) #[] #[]]
def SymPost (r : Bool) (d e a b c x y : Int) (w : World) (en : Ending) (w' : World) : Prop := ∃ p : Nat, en = .returned (.pointer (some ⟨p, 0, none⟩)) ∧ Hid (Arr w' 98 p (symC r d e a b c x y)) ∧ Hid (Below w.heap.size w w')
set_option maxRecDepth 100000 in
theorem symRS (r : Bool) (d e a b c x y : Int) (w : World) : Calls Tryz.prog 71 #[.bool r, .int .i64 d, .int .i64 e, .int .i64 a, .int .i64 b, .int .i64 c, .int .i64 x, .int .i64 y] w (SymPost r d e a b c x y w) := by
  go_enter Tryz.func71, Tryz.ntmps71
  go_wp2_with fail
  go_ret
  exact ⟨w.heap.size, rfl, Lib.hid (Arr.new w 98 (symC r d e a b c x y)), Lib.hid ((Below.refl _ _).alloc (Nat.le_refl _) _)⟩
set_option maxRecDepth 100000 in
theorem symNew (r : Bool) (d e a b c : Int) (w : World) : Calls Tryz.prog 70 #[.bool r, .int .i64 d, .int .i64 e, .int .i64 a, .int .i64 b, .int .i64 c] w (SymPost r d e a b c d e w) := by
  go_enter Tryz.func70, Tryz.ntmps70
  go_wp2_with fail
  refine (symRS r d e a b c d e w).mono ?_
  rintro en w1 ⟨p, rfl, HA, HB⟩
  go_wp2_with fail
  go_ret
  exact ⟨p, rfl, HA, HB⟩
set_option maxRecDepth 100000 in
theorem symRS9 (r : Bool) (d e a b c x y : Int) (w : World) : Calls Tryz.prog 71 #[.bool r, .int .i64 d, .int .i64 e, .int .i64 a, .int .i64 b, .int .i64 c, .int .i64 x, .int .i64 y] w fun en w' => ∃ p : Nat, en = .returned (.pointer (some ⟨p, 0, none⟩)) ∧ Hid (Arr w' 98 p (symC r d e a b c x y)) ∧ Hid (Below w.heap.size w w') ∧ w.heap.size ≤ p := by
  go_enter Tryz.func71, Tryz.ntmps71
  go_wp2_with fail
  go_ret
  exact ⟨w.heap.size, rfl, Lib.hid (Arr.new w 98 (symC r d e a b c x y)), Lib.hid ((Below.refl _ _).alloc (Nat.le_refl _) _), Nat.le_refl _⟩
def PtrPost (w : World) (en : Ending) (w' : World) : Prop := ∃ p : Nat, en = .returned (.pointer (some ⟨p, 0, none⟩)) ∧ Hid (Below w.heap.size w w')
set_option maxRecDepth 100000 in
set_option maxHeartbeats 1600000 in
theorem sym144 (w : World) : Calls Tryz.prog 72 #[] w (PtrPost w) := by
  go_enter Tryz.func72, Tryz.ntmps72
  go_wp2_with fail
  refine (symRS9 _ _ _ _ _ _ _ _ w).mono ?_
  rintro en w1 ⟨p, rfl, HA, HB, hpw⟩
  have c8 := HA.out.cell? 8
  have f8 := HA.out.free 8
  unfold symC at c8
  simp only [List.getElem?_cons_zero, List.getElem?_cons_succ] at c8
  have HA2 := Lib.hid (HA.out.set_ 8 (.func (.func 80) #[] #[]))
  have HB2 : Hid (Below w.heap.size w (w1.setCell ⟨p, 8, none⟩ (.func (.func 80) #[] #[]))) := Lib.hid (HB.out.setCell (p := ⟨p, 8, none⟩) hpw _)
  have c9 := HA2.out.cell? 9
  have f9 := HA2.out.free 9
  unfold symC at c9
  simp only [List.set_cons_succ, List.set_cons_zero, List.getElem?_cons_zero, List.getElem?_cons_succ] at c9
  have HB3 : Hid (Below w.heap.size w ((w1.setCell ⟨p, 8, none⟩ (.func (.func 80) #[] #[])).setCell ⟨p, 9, none⟩ (.func (.func 81) #[] #[]))) := Lib.hid (HB2.out.setCell (p := ⟨p, 9, none⟩) hpw _)
  clear HA HA2 HB HB2
  go_wp2_with fail
  go_ret
  exact ⟨p, rfl, HB3⟩

def recT (t : Nat) : Bool := !((sz t).rows == (sz t).cols)
def symT (t : Nat) (a b c : Int) : List Value := symC (recT t) ((sz t).dt : Nat) ((sz t).er : Nat) a b c (((sz t).dt / (sz t).bl : Nat) : Int) (((sz t).er / (sz t).bl : Nat) : Int)
set_option maxRecDepth 100000
theorem symT_0 (a b c : Int) : symT 0 a b c = symC false 3 5 a b c 3 5 := rfl
theorem symT_1 (a b c : Int) : symT 1 a b c = symC false 5 7 a b c 5 7 := rfl
theorem symT_2 (a b c : Int) : symT 2 a b c = symC true 5 7 a b c 5 7 := rfl
theorem symT_3 (a b c : Int) : symT 3 a b c = symC false 8 10 a b c 8 10 := rfl
theorem symT_4 (a b c : Int) : symT 4 a b c = symC true 10 11 a b c 10 11 := rfl
theorem symT_5 (a b c : Int) : symT 5 a b c = symC false 12 12 a b c 12 12 := rfl
theorem symT_6 (a b c : Int) : symT 6 a b c = symC true 16 14 a b c 16 14 := rfl
theorem symT_7 (a b c : Int) : symT 7 a b c = symC false 18 14 a b c 18 14 := rfl
theorem symT_8 (a b c : Int) : symT 8 a b c = symC false 22 18 a b c 22 18 := rfl
theorem symT_9 (a b c : Int) : symT 9 a b c = symC true 22 18 a b c 22 18 := rfl
theorem symT_10 (a b c : Int) : symT 10 a b c = symC false 30 20 a b c 30 20 := rfl
theorem symT_11 (a b c : Int) : symT 11 a b c = symC true 32 24 a b c 32 24 := rfl
theorem symT_12 (a b c : Int) : symT 12 a b c = symC false 36 24 a b c 36 24 := rfl
theorem symT_13 (a b c : Int) : symT 13 a b c = symC false 44 28 a b c 44 28 := rfl
theorem symT_14 (a b c : Int) : symT 14 a b c = symC true 49 28 a b c 49 28 := rfl
theorem symT_15 (a b c : Int) : symT 15 a b c = symC false 62 36 a b c 62 36 := rfl
theorem symT_16 (a b c : Int) : symT 16 a b c = symC false 86 42 a b c 86 42 := rfl
theorem symT_17 (a b c : Int) : symT 17 a b c = symC false 114 48 a b c 114 48 := rfl
theorem symT_18 (a b c : Int) : symT 18 a b c = symC false 144 56 a b c 144 56 := rfl
theorem symT_19 (a b c : Int) : symT 19 a b c = symC false 174 68 a b c 174 68 := rfl
theorem symT_20 (a b c : Int) : symT 20 a b c = symC false 204 84 a b c 102 42 := rfl
theorem symT_21 (a b c : Int) : symT 21 a b c = symC false 280 112 a b c 140 56 := rfl
theorem symT_22 (a b c : Int) : symT 22 a b c = symC false 368 144 a b c 92 36 := rfl
theorem symT_23 (a b c : Int) : symT 23 a b c = symC false 456 192 a b c 114 48 := rfl
theorem symT_24 (a b c : Int) : symT 24 a b c = symC false 576 224 a b c 144 56 := rfl
theorem symT_25 (a b c : Int) : symT 25 a b c = symC false 696 272 a b c 174 68 := rfl
theorem symT_26 (a b c : Int) : symT 26 a b c = symC false 816 336 a b c 136 56 := rfl
theorem symT_27 (a b c : Int) : symT 27 a b c = symC false 1050 408 a b c 175 68 := rfl
theorem symT_28 (a b c : Int) : symT 28 a b c = symC false 1304 496 a b c 163 62 := rfl
theorem nth_append (a b : List Nat) (j : Nat) : nth (a ++ b) j = if j < a.length then nth a j else nth b (j - a.length) := by
  unfold nth
  rw [List.getD_eq_getElem?_getD, List.getElem?_append]
  split <;> simp [List.getD_eq_getElem?_getD]
def SyL (w : World) (ps : List Nat) : Prop := ∀ i, i < ps.length → ∃ a b c, Arr w 98 (nth ps i) (symT i a b c)
theorem SyL.keep {w w' : World} {ps : List Nat} (h : SyL w ps) (hb : Below w.heap.size w w') : SyL w' ps := fun i hi => by
  obtain ⟨a, b, c, hA⟩ := h i hi
  exact ⟨a, b, c, hA.below hb hA.lt⟩
theorem SyL.snoc {w w' : World} {ps : List Nat} {p : Nat} (h : SyL w ps) (hb : Below w.heap.size w w') (hp : ∃ a b c, Arr w' 98 p (symT ps.length a b c)) : SyL w' (ps ++ [p]) := fun i hi => by
  by_cases h1 : i < ps.length
  · obtain ⟨a, b, c, hA⟩ := h i h1
    refine ⟨a, b, c, ?_⟩
    rw [show nth (ps ++ [p]) i = nth ps i by rw [nth_append, if_pos h1]]
    exact hA.below hb hA.lt
  · obtain rfl : i = ps.length := by simp at hi; omega
    rw [show nth (ps ++ [p]) ps.length = p by rw [nth_append, if_neg h1, Nat.sub_self]; rfl]
    exact hp
def SysPost (w : World) (en : Ending) (w' : World) : Prop := ∃ (b : Nat) (ps : List Nat) (q : Nat), en = .returned (.slice (some ⟨b, 0, none⟩) 30 30) ∧ ps.length = 29 ∧ Hid (Arr w' 64 b ((ps ++ [q]).map fun p : Nat => Value.pointer (some ⟨p, 0, none⟩))) ∧ Hid (SyL w' ps) ∧ Hid (Below w.heap.size w w')
set_option maxRecDepth 100000 in
set_option maxHeartbeats 6400000 in
theorem dmSymbols (w0 : World) : Calls Tryz.prog 64 #[] w0 (SysPost w0) := by
  have HS0 : Hid (SyL w0 []) := Lib.hid (fun i hi => by simp at hi)
  have HW0 : Hid (Below w0.heap.size w0 w0) := Lib.hid (Below.refl _ _)
  go_enter Tryz.func64, Tryz.ntmps64
  go_wp2_with fail
  refine (symNew false 3 5 8 8 1 w0).mono ?_
  rintro e w1 ⟨p0, rfl, HA, HB⟩
  have HS1 : Hid (SyL w1 [p0]) := Lib.hid (SyL.snoc (ps := []) HS0.out HB.out ⟨8, 8, 1, by rw [show ([] : List Nat).length = 0 from rfl, symT_0]; exact HA.out⟩)
  have HW1 : Hid (Below w0.heap.size w0 w1) := Lib.hid (HW0.out.trans (HB.out.mono HW0.out.size))
  clear HS0 HW0 HA HB
  go_wp2_with fail
  refine (symNew false 5 7 10 10 1 w1).mono ?_
  rintro e w2 ⟨p1, rfl, HA, HB⟩
  have HS2 : Hid (SyL w2 [p0, p1]) := Lib.hid (SyL.snoc (ps := [p0]) HS1.out HB.out ⟨10, 10, 1, by rw [show ([p0] : List Nat).length = 1 from rfl, symT_1]; exact HA.out⟩)
  have HW2 : Hid (Below w0.heap.size w0 w2) := Lib.hid (HW1.out.trans (HB.out.mono HW1.out.size))
  clear HS1 HW1 HA HB
  go_wp2_with fail
  refine (symNew true 5 7 16 6 1 w2).mono ?_
  rintro e w3 ⟨p2, rfl, HA, HB⟩
  have HS3 : Hid (SyL w3 [p0, p1, p2]) := Lib.hid (SyL.snoc (ps := [p0, p1]) HS2.out HB.out ⟨16, 6, 1, by rw [show ([p0, p1] : List Nat).length = 2 from rfl, symT_2]; exact HA.out⟩)
  have HW3 : Hid (Below w0.heap.size w0 w3) := Lib.hid (HW2.out.trans (HB.out.mono HW2.out.size))
  clear HS2 HW2 HA HB
  go_wp2_with fail
  refine (symNew false 8 10 12 12 1 w3).mono ?_
  rintro e w4 ⟨p3, rfl, HA, HB⟩
  have HS4 : Hid (SyL w4 [p0, p1, p2, p3]) := Lib.hid (SyL.snoc (ps := [p0, p1, p2]) HS3.out HB.out ⟨12, 12, 1, by rw [show ([p0, p1, p2] : List Nat).length = 3 from rfl, symT_3]; exact HA.out⟩)
  have HW4 : Hid (Below w0.heap.size w0 w4) := Lib.hid (HW3.out.trans (HB.out.mono HW3.out.size))
  clear HS3 HW3 HA HB
  go_wp2_with fail
  refine (symNew true 10 11 14 6 2 w4).mono ?_
  rintro e w5 ⟨p4, rfl, HA, HB⟩
  have HS5 : Hid (SyL w5 [p0, p1, p2, p3, p4]) := Lib.hid (SyL.snoc (ps := [p0, p1, p2, p3]) HS4.out HB.out ⟨14, 6, 2, by rw [show ([p0, p1, p2, p3] : List Nat).length = 4 from rfl, symT_4]; exact HA.out⟩)
  have HW5 : Hid (Below w0.heap.size w0 w5) := Lib.hid (HW4.out.trans (HB.out.mono HW4.out.size))
  clear HS4 HW4 HA HB
  go_wp2_with fail
  refine (symNew false 12 12 14 14 1 w5).mono ?_
  rintro e w6 ⟨p5, rfl, HA, HB⟩
  have HS6 : Hid (SyL w6 [p0, p1, p2, p3, p4, p5]) := Lib.hid (SyL.snoc (ps := [p0, p1, p2, p3, p4]) HS5.out HB.out ⟨14, 14, 1, by rw [show ([p0, p1, p2, p3, p4] : List Nat).length = 5 from rfl, symT_5]; exact HA.out⟩)
  have HW6 : Hid (Below w0.heap.size w0 w6) := Lib.hid (HW5.out.trans (HB.out.mono HW5.out.size))
  clear HS5 HW5 HA HB
  go_wp2_with fail
  refine (symNew true 16 14 24 10 1 w6).mono ?_
  rintro e w7 ⟨p6, rfl, HA, HB⟩
  have HS7 : Hid (SyL w7 [p0, p1, p2, p3, p4, p5, p6]) := Lib.hid (SyL.snoc (ps := [p0, p1, p2, p3, p4, p5]) HS6.out HB.out ⟨24, 10, 1, by rw [show ([p0, p1, p2, p3, p4, p5] : List Nat).length = 6 from rfl, symT_6]; exact HA.out⟩)
  have HW7 : Hid (Below w0.heap.size w0 w7) := Lib.hid (HW6.out.trans (HB.out.mono HW6.out.size))
  clear HS6 HW6 HA HB
  go_wp2_with fail
  refine (symNew false 18 14 16 16 1 w7).mono ?_
  rintro e w8 ⟨p7, rfl, HA, HB⟩
  have HS8 : Hid (SyL w8 [p0, p1, p2, p3, p4, p5, p6, p7]) := Lib.hid (SyL.snoc (ps := [p0, p1, p2, p3, p4, p5, p6]) HS7.out HB.out ⟨16, 16, 1, by rw [show ([p0, p1, p2, p3, p4, p5, p6] : List Nat).length = 7 from rfl, symT_7]; exact HA.out⟩)
  have HW8 : Hid (Below w0.heap.size w0 w8) := Lib.hid (HW7.out.trans (HB.out.mono HW7.out.size))
  clear HS7 HW7 HA HB
  go_wp2_with fail
  refine (symNew false 22 18 18 18 1 w8).mono ?_
  rintro e w9 ⟨p8, rfl, HA, HB⟩
  have HS9 : Hid (SyL w9 [p0, p1, p2, p3, p4, p5, p6, p7, p8]) := Lib.hid (SyL.snoc (ps := [p0, p1, p2, p3, p4, p5, p6, p7]) HS8.out HB.out ⟨18, 18, 1, by rw [show ([p0, p1, p2, p3, p4, p5, p6, p7] : List Nat).length = 8 from rfl, symT_8]; exact HA.out⟩)
  have HW9 : Hid (Below w0.heap.size w0 w9) := Lib.hid (HW8.out.trans (HB.out.mono HW8.out.size))
  clear HS8 HW8 HA HB
  go_wp2_with fail
  refine (symNew true 22 18 16 10 2 w9).mono ?_
  rintro e w10 ⟨p9, rfl, HA, HB⟩
  have HS10 : Hid (SyL w10 [p0, p1, p2, p3, p4, p5, p6, p7, p8, p9]) := Lib.hid (SyL.snoc (ps := [p0, p1, p2, p3, p4, p5, p6, p7, p8]) HS9.out HB.out ⟨16, 10, 2, by rw [show ([p0, p1, p2, p3, p4, p5, p6, p7, p8] : List Nat).length = 9 from rfl, symT_9]; exact HA.out⟩)
  have HW10 : Hid (Below w0.heap.size w0 w10) := Lib.hid (HW9.out.trans (HB.out.mono HW9.out.size))
  clear HS9 HW9 HA HB
  go_wp2_with fail
  refine (symNew false 30 20 20 20 1 w10).mono ?_
  rintro e w11 ⟨p10, rfl, HA, HB⟩
  have HS11 : Hid (SyL w11 [p0, p1, p2, p3, p4, p5, p6, p7, p8, p9, p10]) := Lib.hid (SyL.snoc (ps := [p0, p1, p2, p3, p4, p5, p6, p7, p8, p9]) HS10.out HB.out ⟨20, 20, 1, by rw [show ([p0, p1, p2, p3, p4, p5, p6, p7, p8, p9] : List Nat).length = 10 from rfl, symT_10]; exact HA.out⟩)
  have HW11 : Hid (Below w0.heap.size w0 w11) := Lib.hid (HW10.out.trans (HB.out.mono HW10.out.size))
  clear HS10 HW10 HA HB
  go_wp2_with fail
  refine (symNew true 32 24 16 14 2 w11).mono ?_
  rintro e w12 ⟨p11, rfl, HA, HB⟩
  have HS12 : Hid (SyL w12 [p0, p1, p2, p3, p4, p5, p6, p7, p8, p9, p10, p11]) := Lib.hid (SyL.snoc (ps := [p0, p1, p2, p3, p4, p5, p6, p7, p8, p9, p10]) HS11.out HB.out ⟨16, 14, 2, by rw [show ([p0, p1, p2, p3, p4, p5, p6, p7, p8, p9, p10] : List Nat).length = 11 from rfl, symT_11]; exact HA.out⟩)
  have HW12 : Hid (Below w0.heap.size w0 w12) := Lib.hid (HW11.out.trans (HB.out.mono HW11.out.size))
  clear HS11 HW11 HA HB
  go_wp2_with fail
  refine (symNew false 36 24 22 22 1 w12).mono ?_
  rintro e w13 ⟨p12, rfl, HA, HB⟩
  have HS13 : Hid (SyL w13 [p0, p1, p2, p3, p4, p5, p6, p7, p8, p9, p10, p11, p12]) := Lib.hid (SyL.snoc (ps := [p0, p1, p2, p3, p4, p5, p6, p7, p8, p9, p10, p11]) HS12.out HB.out ⟨22, 22, 1, by rw [show ([p0, p1, p2, p3, p4, p5, p6, p7, p8, p9, p10, p11] : List Nat).length = 12 from rfl, symT_12]; exact HA.out⟩)
  have HW13 : Hid (Below w0.heap.size w0 w13) := Lib.hid (HW12.out.trans (HB.out.mono HW12.out.size))
  clear HS12 HW12 HA HB
  go_wp2_with fail
  refine (symNew false 44 28 24 24 1 w13).mono ?_
  rintro e w14 ⟨p13, rfl, HA, HB⟩
  have HS14 : Hid (SyL w14 [p0, p1, p2, p3, p4, p5, p6, p7, p8, p9, p10, p11, p12, p13]) := Lib.hid (SyL.snoc (ps := [p0, p1, p2, p3, p4, p5, p6, p7, p8, p9, p10, p11, p12]) HS13.out HB.out ⟨24, 24, 1, by rw [show ([p0, p1, p2, p3, p4, p5, p6, p7, p8, p9, p10, p11, p12] : List Nat).length = 13 from rfl, symT_13]; exact HA.out⟩)
  have HW14 : Hid (Below w0.heap.size w0 w14) := Lib.hid (HW13.out.trans (HB.out.mono HW13.out.size))
  clear HS13 HW13 HA HB
  go_wp2_with fail
  refine (symNew true 49 28 22 14 2 w14).mono ?_
  rintro e w15 ⟨p14, rfl, HA, HB⟩
  have HS15 : Hid (SyL w15 [p0, p1, p2, p3, p4, p5, p6, p7, p8, p9, p10, p11, p12, p13, p14]) := Lib.hid (SyL.snoc (ps := [p0, p1, p2, p3, p4, p5, p6, p7, p8, p9, p10, p11, p12, p13]) HS14.out HB.out ⟨22, 14, 2, by rw [show ([p0, p1, p2, p3, p4, p5, p6, p7, p8, p9, p10, p11, p12, p13] : List Nat).length = 14 from rfl, symT_14]; exact HA.out⟩)
  have HW15 : Hid (Below w0.heap.size w0 w15) := Lib.hid (HW14.out.trans (HB.out.mono HW14.out.size))
  clear HS14 HW14 HA HB
  go_wp2_with fail
  refine (symNew false 62 36 14 14 4 w15).mono ?_
  rintro e w16 ⟨p15, rfl, HA, HB⟩
  have HS16 : Hid (SyL w16 [p0, p1, p2, p3, p4, p5, p6, p7, p8, p9, p10, p11, p12, p13, p14, p15]) := Lib.hid (SyL.snoc (ps := [p0, p1, p2, p3, p4, p5, p6, p7, p8, p9, p10, p11, p12, p13, p14]) HS15.out HB.out ⟨14, 14, 4, by rw [show ([p0, p1, p2, p3, p4, p5, p6, p7, p8, p9, p10, p11, p12, p13, p14] : List Nat).length = 15 from rfl, symT_15]; exact HA.out⟩)
  have HW16 : Hid (Below w0.heap.size w0 w16) := Lib.hid (HW15.out.trans (HB.out.mono HW15.out.size))
  clear HS15 HW15 HA HB
  go_wp2_with fail
  refine (symNew false 86 42 16 16 4 w16).mono ?_
  rintro e w17 ⟨p16, rfl, HA, HB⟩
  have HS17 : Hid (SyL w17 [p0, p1, p2, p3, p4, p5, p6, p7, p8, p9, p10, p11, p12, p13, p14, p15, p16]) := Lib.hid (SyL.snoc (ps := [p0, p1, p2, p3, p4, p5, p6, p7, p8, p9, p10, p11, p12, p13, p14, p15]) HS16.out HB.out ⟨16, 16, 4, by rw [show ([p0, p1, p2, p3, p4, p5, p6, p7, p8, p9, p10, p11, p12, p13, p14, p15] : List Nat).length = 16 from rfl, symT_16]; exact HA.out⟩)
  have HW17 : Hid (Below w0.heap.size w0 w17) := Lib.hid (HW16.out.trans (HB.out.mono HW16.out.size))
  clear HS16 HW16 HA HB
  go_wp2_with fail
  refine (symNew false 114 48 18 18 4 w17).mono ?_
  rintro e w18 ⟨p17, rfl, HA, HB⟩
  have HS18 : Hid (SyL w18 [p0, p1, p2, p3, p4, p5, p6, p7, p8, p9, p10, p11, p12, p13, p14, p15, p16, p17]) := Lib.hid (SyL.snoc (ps := [p0, p1, p2, p3, p4, p5, p6, p7, p8, p9, p10, p11, p12, p13, p14, p15, p16]) HS17.out HB.out ⟨18, 18, 4, by rw [show ([p0, p1, p2, p3, p4, p5, p6, p7, p8, p9, p10, p11, p12, p13, p14, p15, p16] : List Nat).length = 17 from rfl, symT_17]; exact HA.out⟩)
  have HW18 : Hid (Below w0.heap.size w0 w18) := Lib.hid (HW17.out.trans (HB.out.mono HW17.out.size))
  clear HS17 HW17 HA HB
  go_wp2_with fail
  refine (symNew false 144 56 20 20 4 w18).mono ?_
  rintro e w19 ⟨p18, rfl, HA, HB⟩
  have HS19 : Hid (SyL w19 [p0, p1, p2, p3, p4, p5, p6, p7, p8, p9, p10, p11, p12, p13, p14, p15, p16, p17, p18]) := Lib.hid (SyL.snoc (ps := [p0, p1, p2, p3, p4, p5, p6, p7, p8, p9, p10, p11, p12, p13, p14, p15, p16, p17]) HS18.out HB.out ⟨20, 20, 4, by rw [show ([p0, p1, p2, p3, p4, p5, p6, p7, p8, p9, p10, p11, p12, p13, p14, p15, p16, p17] : List Nat).length = 18 from rfl, symT_18]; exact HA.out⟩)
  have HW19 : Hid (Below w0.heap.size w0 w19) := Lib.hid (HW18.out.trans (HB.out.mono HW18.out.size))
  clear HS18 HW18 HA HB
  go_wp2_with fail
  refine (symNew false 174 68 22 22 4 w19).mono ?_
  rintro e w20 ⟨p19, rfl, HA, HB⟩
  have HS20 : Hid (SyL w20 [p0, p1, p2, p3, p4, p5, p6, p7, p8, p9, p10, p11, p12, p13, p14, p15, p16, p17, p18, p19]) := Lib.hid (SyL.snoc (ps := [p0, p1, p2, p3, p4, p5, p6, p7, p8, p9, p10, p11, p12, p13, p14, p15, p16, p17, p18]) HS19.out HB.out ⟨22, 22, 4, by rw [show ([p0, p1, p2, p3, p4, p5, p6, p7, p8, p9, p10, p11, p12, p13, p14, p15, p16, p17, p18] : List Nat).length = 19 from rfl, symT_19]; exact HA.out⟩)
  have HW20 : Hid (Below w0.heap.size w0 w20) := Lib.hid (HW19.out.trans (HB.out.mono HW19.out.size))
  clear HS19 HW19 HA HB
  go_wp2_with fail
  refine (symRS false 204 84 24 24 4 102 42 w20).mono ?_
  rintro e w21 ⟨p20, rfl, HA, HB⟩
  have HS21 : Hid (SyL w21 [p0, p1, p2, p3, p4, p5, p6, p7, p8, p9, p10, p11, p12, p13, p14, p15, p16, p17, p18, p19, p20]) := Lib.hid (SyL.snoc (ps := [p0, p1, p2, p3, p4, p5, p6, p7, p8, p9, p10, p11, p12, p13, p14, p15, p16, p17, p18, p19]) HS20.out HB.out ⟨24, 24, 4, by rw [show ([p0, p1, p2, p3, p4, p5, p6, p7, p8, p9, p10, p11, p12, p13, p14, p15, p16, p17, p18, p19] : List Nat).length = 20 from rfl, symT_20]; exact HA.out⟩)
  have HW21 : Hid (Below w0.heap.size w0 w21) := Lib.hid (HW20.out.trans (HB.out.mono HW20.out.size))
  clear HS20 HW20 HA HB
  go_wp2_with fail
  refine (symRS false 280 112 14 14 16 140 56 w21).mono ?_
  rintro e w22 ⟨p21, rfl, HA, HB⟩
  have HS22 : Hid (SyL w22 [p0, p1, p2, p3, p4, p5, p6, p7, p8, p9, p10, p11, p12, p13, p14, p15, p16, p17, p18, p19, p20, p21]) := Lib.hid (SyL.snoc (ps := [p0, p1, p2, p3, p4, p5, p6, p7, p8, p9, p10, p11, p12, p13, p14, p15, p16, p17, p18, p19, p20]) HS21.out HB.out ⟨14, 14, 16, by rw [show ([p0, p1, p2, p3, p4, p5, p6, p7, p8, p9, p10, p11, p12, p13, p14, p15, p16, p17, p18, p19, p20] : List Nat).length = 21 from rfl, symT_21]; exact HA.out⟩)
  have HW22 : Hid (Below w0.heap.size w0 w22) := Lib.hid (HW21.out.trans (HB.out.mono HW21.out.size))
  clear HS21 HW21 HA HB
  go_wp2_with fail
  refine (symRS false 368 144 16 16 16 92 36 w22).mono ?_
  rintro e w23 ⟨p22, rfl, HA, HB⟩
  have HS23 : Hid (SyL w23 [p0, p1, p2, p3, p4, p5, p6, p7, p8, p9, p10, p11, p12, p13, p14, p15, p16, p17, p18, p19, p20, p21, p22]) := Lib.hid (SyL.snoc (ps := [p0, p1, p2, p3, p4, p5, p6, p7, p8, p9, p10, p11, p12, p13, p14, p15, p16, p17, p18, p19, p20, p21]) HS22.out HB.out ⟨16, 16, 16, by rw [show ([p0, p1, p2, p3, p4, p5, p6, p7, p8, p9, p10, p11, p12, p13, p14, p15, p16, p17, p18, p19, p20, p21] : List Nat).length = 22 from rfl, symT_22]; exact HA.out⟩)
  have HW23 : Hid (Below w0.heap.size w0 w23) := Lib.hid (HW22.out.trans (HB.out.mono HW22.out.size))
  clear HS22 HW22 HA HB
  go_wp2_with fail
  refine (symRS false 456 192 18 18 16 114 48 w23).mono ?_
  rintro e w24 ⟨p23, rfl, HA, HB⟩
  have HS24 : Hid (SyL w24 [p0, p1, p2, p3, p4, p5, p6, p7, p8, p9, p10, p11, p12, p13, p14, p15, p16, p17, p18, p19, p20, p21, p22, p23]) := Lib.hid (SyL.snoc (ps := [p0, p1, p2, p3, p4, p5, p6, p7, p8, p9, p10, p11, p12, p13, p14, p15, p16, p17, p18, p19, p20, p21, p22]) HS23.out HB.out ⟨18, 18, 16, by rw [show ([p0, p1, p2, p3, p4, p5, p6, p7, p8, p9, p10, p11, p12, p13, p14, p15, p16, p17, p18, p19, p20, p21, p22] : List Nat).length = 23 from rfl, symT_23]; exact HA.out⟩)
  have HW24 : Hid (Below w0.heap.size w0 w24) := Lib.hid (HW23.out.trans (HB.out.mono HW23.out.size))
  clear HS23 HW23 HA HB
  go_wp2_with fail
  refine (symRS false 576 224 20 20 16 144 56 w24).mono ?_
  rintro e w25 ⟨p24, rfl, HA, HB⟩
  have HS25 : Hid (SyL w25 [p0, p1, p2, p3, p4, p5, p6, p7, p8, p9, p10, p11, p12, p13, p14, p15, p16, p17, p18, p19, p20, p21, p22, p23, p24]) := Lib.hid (SyL.snoc (ps := [p0, p1, p2, p3, p4, p5, p6, p7, p8, p9, p10, p11, p12, p13, p14, p15, p16, p17, p18, p19, p20, p21, p22, p23]) HS24.out HB.out ⟨20, 20, 16, by rw [show ([p0, p1, p2, p3, p4, p5, p6, p7, p8, p9, p10, p11, p12, p13, p14, p15, p16, p17, p18, p19, p20, p21, p22, p23] : List Nat).length = 24 from rfl, symT_24]; exact HA.out⟩)
  have HW25 : Hid (Below w0.heap.size w0 w25) := Lib.hid (HW24.out.trans (HB.out.mono HW24.out.size))
  clear HS24 HW24 HA HB
  go_wp2_with fail
  refine (symRS false 696 272 22 22 16 174 68 w25).mono ?_
  rintro e w26 ⟨p25, rfl, HA, HB⟩
  have HS26 : Hid (SyL w26 [p0, p1, p2, p3, p4, p5, p6, p7, p8, p9, p10, p11, p12, p13, p14, p15, p16, p17, p18, p19, p20, p21, p22, p23, p24, p25]) := Lib.hid (SyL.snoc (ps := [p0, p1, p2, p3, p4, p5, p6, p7, p8, p9, p10, p11, p12, p13, p14, p15, p16, p17, p18, p19, p20, p21, p22, p23, p24]) HS25.out HB.out ⟨22, 22, 16, by rw [show ([p0, p1, p2, p3, p4, p5, p6, p7, p8, p9, p10, p11, p12, p13, p14, p15, p16, p17, p18, p19, p20, p21, p22, p23, p24] : List Nat).length = 25 from rfl, symT_25]; exact HA.out⟩)
  have HW26 : Hid (Below w0.heap.size w0 w26) := Lib.hid (HW25.out.trans (HB.out.mono HW25.out.size))
  clear HS25 HW25 HA HB
  go_wp2_with fail
  refine (symRS false 816 336 24 24 16 136 56 w26).mono ?_
  rintro e w27 ⟨p26, rfl, HA, HB⟩
  have HS27 : Hid (SyL w27 [p0, p1, p2, p3, p4, p5, p6, p7, p8, p9, p10, p11, p12, p13, p14, p15, p16, p17, p18, p19, p20, p21, p22, p23, p24, p25, p26]) := Lib.hid (SyL.snoc (ps := [p0, p1, p2, p3, p4, p5, p6, p7, p8, p9, p10, p11, p12, p13, p14, p15, p16, p17, p18, p19, p20, p21, p22, p23, p24, p25]) HS26.out HB.out ⟨24, 24, 16, by rw [show ([p0, p1, p2, p3, p4, p5, p6, p7, p8, p9, p10, p11, p12, p13, p14, p15, p16, p17, p18, p19, p20, p21, p22, p23, p24, p25] : List Nat).length = 26 from rfl, symT_26]; exact HA.out⟩)
  have HW27 : Hid (Below w0.heap.size w0 w27) := Lib.hid (HW26.out.trans (HB.out.mono HW26.out.size))
  clear HS26 HW26 HA HB
  go_wp2_with fail
  refine (symRS false 1050 408 18 18 36 175 68 w27).mono ?_
  rintro e w28 ⟨p27, rfl, HA, HB⟩
  have HS28 : Hid (SyL w28 [p0, p1, p2, p3, p4, p5, p6, p7, p8, p9, p10, p11, p12, p13, p14, p15, p16, p17, p18, p19, p20, p21, p22, p23, p24, p25, p26, p27]) := Lib.hid (SyL.snoc (ps := [p0, p1, p2, p3, p4, p5, p6, p7, p8, p9, p10, p11, p12, p13, p14, p15, p16, p17, p18, p19, p20, p21, p22, p23, p24, p25, p26]) HS27.out HB.out ⟨18, 18, 36, by rw [show ([p0, p1, p2, p3, p4, p5, p6, p7, p8, p9, p10, p11, p12, p13, p14, p15, p16, p17, p18, p19, p20, p21, p22, p23, p24, p25, p26] : List Nat).length = 27 from rfl, symT_27]; exact HA.out⟩)
  have HW28 : Hid (Below w0.heap.size w0 w28) := Lib.hid (HW27.out.trans (HB.out.mono HW27.out.size))
  clear HS27 HW27 HA HB
  go_wp2_with fail
  refine (symRS false 1304 496 20 20 36 163 62 w28).mono ?_
  rintro e w29 ⟨p28, rfl, HA, HB⟩
  have HS29 : Hid (SyL w29 [p0, p1, p2, p3, p4, p5, p6, p7, p8, p9, p10, p11, p12, p13, p14, p15, p16, p17, p18, p19, p20, p21, p22, p23, p24, p25, p26, p27, p28]) := Lib.hid (SyL.snoc (ps := [p0, p1, p2, p3, p4, p5, p6, p7, p8, p9, p10, p11, p12, p13, p14, p15, p16, p17, p18, p19, p20, p21, p22, p23, p24, p25, p26, p27]) HS28.out HB.out ⟨20, 20, 36, by rw [show ([p0, p1, p2, p3, p4, p5, p6, p7, p8, p9, p10, p11, p12, p13, p14, p15, p16, p17, p18, p19, p20, p21, p22, p23, p24, p25, p26, p27] : List Nat).length = 28 from rfl, symT_28]; exact HA.out⟩)
  have HW29 : Hid (Below w0.heap.size w0 w29) := Lib.hid (HW28.out.trans (HB.out.mono HW28.out.size))
  clear HS28 HW28 HA HB
  go_wp2_with fail
  refine (sym144 w29).mono ?_
  rintro e w30 ⟨p29, rfl, HB⟩
  have HS30 : Hid (SyL w30 [p0, p1, p2, p3, p4, p5, p6, p7, p8, p9, p10, p11, p12, p13, p14, p15, p16, p17, p18, p19, p20, p21, p22, p23, p24, p25, p26, p27, p28]) := Lib.hid (SyL.keep HS29.out HB.out)
  have HW30 : Hid (Below w0.heap.size w0 w30) := Lib.hid (HW29.out.trans (HB.out.mono HW29.out.size))
  clear HS29 HW29 HB
  go_wp2_with (refine Great.wpList_buildSliceTo rfl 105 64 30 _ rfl w30.heap.size rfl (some 31) rfl (by kernel_rfl) (([p0, p1, p2, p3, p4, p5, p6, p7, p8, p9, p10, p11, p12, p13, p14, p15, p16, p17, p18, p19, p20, p21, p22, p23, p24, p25, p26, p27, p28] ++ [p29]).map fun p : Nat => Value.pointer (some ⟨p, 0, none⟩)).toArray rfl ?_)
  go_ret
  exact ⟨w30.heap.size, [p0, p1, p2, p3, p4, p5, p6, p7, p8, p9, p10, p11, p12, p13, p14, p15, p16, p17, p18, p19, p20, p21, p22, p23, p24, p25, p26, p27, p28], p29, rfl, rfl, Lib.hid (Arr.new w30 _ _), Lib.hid (SyL.keep HS30.out ((Below.refl _ _).alloc (Nat.le_refl _) _)), Lib.hid (HW30.out.alloc HW30.out.size _)⟩

/-- A symbol. -/
def SymA (w : World) (p : Nat) (r : Bool) (d e x y : Nat) : Prop := ∃ a b c, Arr w 98 p (symC r d e a b c x y)
theorem SymA.below {w w' : World} {p : Nat} {r : Bool} {d e x y : Nat} (h : SymA w p r d e x y) (hb : Below w.heap.size w w') : SymA w' p r d e x y := by
  obtain ⟨a, b, c, hA⟩ := h
  exact ⟨a, b, c, hA.below hb hA.lt⟩
theorem SymA.mod {S : Nat → Prop} {w w' : World} {p : Nat} {r : Bool} {d e x y : Nat} (h : SymA w p r d e x y) (hm : Mod S w w') (hp : ¬ S p) : SymA w' p r d e x y := by
  obtain ⟨a, b, c, hA⟩ := h
  exact ⟨a, b, c, hA.mod hm hp⟩
theorem SymA.lt {w : World} {p : Nat} {r : Bool} {d e x y : Nat} (h : SymA w p r d e x y) : p < w.heap.size := by
  obtain ⟨a, b, c, hA⟩ := h
  exact hA.lt
theorem SymA.cells {w : World} {p : Nat} {r : Bool} {d e x y : Nat} (h : SymA w p r d e x y) : w.cell? ⟨p, 0, none⟩ = some (.bool r) ∧ w.cell? ⟨p, 1, none⟩ = some (.int .i64 d) ∧ w.cell? ⟨p, 2, none⟩ = some (.int .i64 e) ∧ w.cell? ⟨p, 6, none⟩ = some (.int .i64 x) ∧ w.cell? ⟨p, 7, none⟩ = some (.int .i64 y) ∧ w.cell? ⟨p, 8, none⟩ = some (.func (.func 78) #[] #[]) ∧ w.cell? ⟨p, 9, none⟩ = some (.func (.func 79) #[] #[]) := by
  obtain ⟨a, b, c, hA⟩ := h
  exact ⟨hA.cell? 0, hA.cell? 1, hA.cell? 2, hA.cell? 6, hA.cell? 7, hA.cell? 8, hA.cell? 9⟩
set_option maxRecDepth 100000 in
theorem symCap (w : World) (p : Nat) (r : Bool) (d e x y : Nat) (h : SymA w p r d e x y) : Calls Tryz.prog 42 #[.pointer (some ⟨p, 0, none⟩)] w fun en w' => en = .returned (.int .i64 d) ∧ w = w' := by
  obtain ⟨c0, c1, c2, c6, c7, c8, c9⟩ := h.cells
  clear h
  go_enter Tryz.func42, Tryz.ntmps42
  go_wp2_with fail
  go_ret
  exact ⟨rfl, rfl⟩
/-- Whether a shape allows symbol t; the first one that holds n words. -/
def alT (sh t : Nat) : Bool := if sh = 0 then true else if sh = 1 then !recT t else recT t
def findT (sh n : Nat) : Nat := ((List.range 29).find? fun t => alT sh t && decide (n ≤ (sz t).dt)).getD 29
def chkT (sh n : Nat) : Bool := decide (findT sh n < 29) && alT sh (findT sh n) && decide (n ≤ (sz (findT sh n)).dt) && ((List.range (findT sh n)).all fun t => !alT sh t || decide ((sz t).dt < n)) && decide ((sz (findT sh n)).dt = DV.capFor sh n)
theorem chk_all : ((List.range 1305).all fun n => chkT 0 n && chkT 1 n) = true ∧ ((List.range 50).all fun n => chkT 2 n) = true := by decide +kernel
def capMost (sh : Nat) : Nat := if sh = 2 then 49 else 1304
theorem chk_at {sh n : Nat} (hsh : sh ≤ 2) (hn : n ≤ capMost sh) : findT sh n < 29 ∧ alT sh (findT sh n) = true ∧ n ≤ (sz (findT sh n)).dt ∧ (∀ t, t < findT sh n → alT sh t = true → (sz t).dt < n) ∧ (sz (findT sh n)).dt = DV.capFor sh n := by
  have h : chkT sh n = true := by
    unfold capMost at hn
    rcases (show sh = 0 ∨ sh = 1 ∨ sh = 2 by omega) with rfl | rfl | rfl
    · have := List.all_eq_true.1 chk_all.1 n (List.mem_range.2 (by simp at hn; omega))
      rw [Bool.and_eq_true] at this; exact this.1
    · have := List.all_eq_true.1 chk_all.1 n (List.mem_range.2 (by simp at hn; omega))
      rw [Bool.and_eq_true] at this; exact this.2
    · exact List.all_eq_true.1 chk_all.2 n (List.mem_range.2 (by simp at hn; omega))
  unfold chkT at h
  simp only [Bool.and_eq_true, decide_eq_true_eq, List.all_eq_true, List.mem_range, Bool.or_eq_true, Bool.not_eq_true'] at h
  obtain ⟨⟨⟨⟨h1, h2⟩, h3⟩, h4⟩, h5⟩ := h
  refine ⟨h1, h2, h3, fun t ht ha => ?_, h5⟩
  rcases h4 t ht with h | h
  · rw [ha] at h; cases h
  · exact h
def LkPost (sh n : Nat) (w : World) (en : Ending) (w' : World) : Prop := ∃ (p : Nat) (r : Bool) (e x y : Nat), en = .returned (.tuple #[.pointer (some ⟨p, 0, none⟩), .nilIface]) ∧ Hid (SymA w' p r (DV.capFor sh n) e x y) ∧ Hid (Below w.heap.size w w')
set_option maxRecDepth 100000 in
set_option maxHeartbeats 6400000 in
theorem dmLook (sh n : Nat) (hsh : sh ≤ 2) (hn : n ≤ capMost sh) (w : World) : Calls Tryz.prog 63 #[.int .i64 n, .int .i64 sh, .pointer none, .pointer none, .bool true] w (LkPost sh n w) := by
  obtain ⟨h1, h2, h3, h4, h5⟩ := chk_at hsh hn
  obtain ⟨t0, ht0⟩ : ∃ t0, t0 = findT sh n := ⟨_, rfl⟩
  rw [← ht0] at h1 h2 h3 h4 h5
  have HALL := Lib.hid h4
  have HAL := Lib.hid h2
  have HLE := Lib.hid h3
  have HCAP := Lib.hid h5
  have hnb : n ≤ 1304 := by unfold capMost at hn; split at hn <;> omega
  clear h2 h3 h4 h5 ht0 hn
  go_enter Tryz.func63, Tryz.ntmps63
  go_wp2_with fail
  refine (dmSymbols w).mono ?_
  rintro en w1 ⟨b, ps, q, rfl, hpl, HA, HS, HB⟩
  have HPC : Hid (∀ t, t < 29 → w1.cell? ⟨b, t, none⟩ = some (.pointer (some ⟨nth ps t, 0, none⟩))) := Lib.hid (fun t ht => by
    rw [HA.out.cell?, List.getElem?_map, List.getElem?_append_left (by omega), List.getElem?_eq_getElem (by omega), nth_eq (by omega)]; rfl)
  have HPL := Lib.hid hpl
  clear hpl HA
  go_wp2_with fail
  go_loopw [16] (fun i wr => ∃ t : Nat, t ≤ t0 ∧ i = .int .i64 t ∧ w1 = wr) (fun i _ => t0 - (intOf i).toNat)
  case atStart => exact ⟨0, Nat.zero_le _, rfl, rfl⟩
  case round =>
    obtain ⟨t, ht, rfl, rfl⟩ := hrel
    have hti : (t : Int) < 30 := by omega
    have hti0 : (0 : Int) ≤ (t : Int) := by omega
    have cp := HPC.out t (by omega)
    obtain ⟨a, b', c, hA⟩ := HS.out t (by rw [HPL.out]; omega)
    have hSA : SymA w1 (nth ps t) (recT t) (sz t).dt (sz t).er ((sz t).dt / (sz t).bl) ((sz t).er / (sz t).bl) := ⟨a, b', c, hA⟩
    obtain ⟨c0, c1, c2, c6, c7, c8, c9⟩ := hSA.cells
    obtain ⟨p, hp⟩ : ∃ p, p = nth ps t := ⟨_, rfl⟩
    rw [← hp] at cp c0 c1 hSA
    obtain ⟨y, hy⟩ : ∃ y, y = (sz t).dt := ⟨_, rfl⟩
    rw [← hy] at c1 hSA
    have hal : t < t0 → alT sh t = true → y < n := fun h1 h2 => by rw [hy]; exact HALL.out t h1 h2
    have heq : t = t0 → y = DV.capFor sh n ∧ n ≤ y ∧ alT sh t = true := fun h1 => ⟨by rw [hy, h1]; exact HCAP.out, by rw [hy, h1]; exact HLE.out, by rw [h1]; exact HAL.out⟩
    obtain ⟨r, hr⟩ : ∃ r, r = recT t := ⟨_, rfl⟩
    have halr : alT sh t = if sh = 0 then true else if sh = 1 then !r else r := by unfold alT; rw [hr]
    rw [halr] at hal heq
    rw [← hr] at c0 hSA
    have HSA := Lib.hid hSA
    clear hA hSA c2 c6 c7 c8 c9 hp hy hr halr
    by_cases hlt : t < t0
    · have hlt2 := hal hlt
      have HLT := Lib.hid hlt
      clear hal heq
      rcases (show sh = 0 ∨ sh = 1 ∨ sh = 2 by omega) with rfl | rfl | rfl
      all_goals
        cases r
        all_goals
          simp only [if_true, Bool.not_true, Bool.not_false, Bool.false_eq_true, if_false, show (1 : Nat) ≠ 0 by decide, show (2 : Nat) ≠ 0 by decide, show (2 : Nat) ≠ 1 by decide, true_implies, false_implies] at hlt2
          try have hyx : ((n : Int) ≤ (y : Int)) = False := by simp; omega
          clear hlt2
          go_wp2_with fail
          go_roundw
          case rel => have := HLT.out; exact ⟨t + 1, by omega, by go_num, by trivial⟩
          case measure => have := HLT.out; simp [intOf]; omega
    · obtain ⟨e1, e2, e3⟩ := heq (by omega)
      have hyx : (n : Int) ≤ (y : Int) := by omega
      have HE := Lib.hid e1
      clear hal heq e1
      rcases (show sh = 0 ∨ sh = 1 ∨ sh = 2 by omega) with rfl | rfl | rfl
      · cases r
        all_goals
          go_wp2_with fail
          go_ret2
          exact ⟨p, _, _, _, _, rfl, Lib.hid (HE.out ▸ HSA.out), HB⟩
      · simp only [show (1 : Nat) ≠ 0 by decide, if_false, if_true, Bool.not_eq_true'] at e3
        subst e3
        go_wp2_with fail
        go_ret2
        exact ⟨p, _, _, _, _, rfl, Lib.hid (HE.out ▸ HSA.out), HB⟩
      · simp only [show (2 : Nat) ≠ 0 by decide, show (2 : Nat) ≠ 1 by decide, if_false] at e3
        subst e3
        go_wp2_with fail
        go_ret2
        exact ⟨p, _, _, _, _, rfl, Lib.hid (HE.out ▸ HSA.out), HB⟩
end Go.Proofs.YtcadknfcahmdcaaGreat
