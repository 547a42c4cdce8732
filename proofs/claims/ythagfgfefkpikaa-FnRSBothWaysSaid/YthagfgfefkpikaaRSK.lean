/-
  PolyMake and PolyDegree, walked, and the statement FnRSMakes. No condition beyond the bounds that each theorem states.
-/
import Derived.Test.YthagfgfefkpikaaRSM
import Derived.Test.YthagfgfefkpikaaRSame
import Derived.Deep.RegionLaw
import Derived.BigRegion
namespace Go.Proofs.Ythagfgfefkpikaa
open Go.RowKit Go.Qz Go.Qz.RS
set_option linter.unusedVariables false

set_option maxRecDepth 100000 in
set_option maxHeartbeats 1600000 in
theorem polyMake (F : Fld) (hF : Six F) (l : List Nat) (A : Option Addr) (c : Nat) (w : World) (hn : l.length < 1000000) (h : SlQ w (fun _ => True) A l c) :
    Calls Try.prog 15 #[fv F, .slice A l.length c] w fun e w' => ∃ v r, e = .returned (.tuple #[v, .bool r]) ∧ Below w.heap.size w w' ∧ r = decide (l ≠ []) ∧
      (l ≠ [] → ∃ A c, v = .slice A (tidy l).length c ∧ SlQ w' (fun _ => True) A (tidy l) c) := by
  have hb0 : Below w.heap.size w (w.alloc (.cells #[.int .i64 F.prim, .int .i64 F.size, .int .i64 F.base] 23)) := (Below.refl _ _).alloc (Nat.le_refl _) _
  have HF := Lib.hid (implField (fun _ => True) F hF (w.alloc (.cells #[.int .i64 F.prim, .int .i64 F.size, .int .i64 F.base] 23)) (fun _ _ => trivial))
  have HS := Lib.hid (h.below hb0)
  clear h
  unfold fv at HF ⊢
  go_enter Try.func15, Try.ntmps15
  go_wp2_with fail
  refine HF.out.mono ?_
  rintro e w1 ⟨f, rfl, hg, hb1, _⟩
  have HP := Lib.hid (implPoly (fun _ => True) f A l c w1 (fun _ _ => trivial) hn (HS.out.below hb1).rd)
  clear hg
  have hb1' := hb0.trans (hb1.mono (by simp))
  clear hb1 hb0
  go_wp2_with fail
  refine HP.out.mono ?_
  rintro e w2 ⟨v, x, rfl, hb2, h1, h2⟩
  have hb2' := hb1'.trans (hb2.mono hb1'.size)
  clear hb2 hb1'
  by_cases hl : l = []
  · obtain ⟨rfl, hx⟩ := h1 hl
    have HX := Lib.hid hx
    clear h1 h2 hx
    go_wp2_with fail
    refine (implList_err _ HX.out _ _).mono ?_
    rintro e w3 ⟨rfl, rfl⟩
    go_wp2_with fail
    go_ret2
    exact ⟨_, _, rfl, hb2', by simp [hl], fun h => absurd hl h⟩
  · obtain ⟨rfl, p, rfl, hp⟩ := h2 hl
    have hle : (tidy l).length ≤ l.length := tidy_length l
    have HP := Lib.hid (implList _ p f (tidy l) w2 hp (by omega))
    clear h1 h2 hp
    go_wp2_with fail
    refine HP.out.mono ?_
    rintro e w3 ⟨v, rfl, hown, hb3⟩
    obtain ⟨A', c', rfl, hl', hlc, hcm, hsl⟩ := slq_of_own (Q := fun _ => True) hown (fun _ _ => trivial)
    have HSL := Lib.hid hsl
    clear hown hsl hl'
    go_wp2_with fail
    go_ret2
    exact ⟨_, _, rfl, hb2'.trans (hb3.mono hb2'.size), by simp [hl], fun _ => ⟨_, _, rfl, HSL.out⟩⟩

set_option maxRecDepth 100000 in
set_option maxHeartbeats 1600000 in
theorem polyDegreeOf (F : Fld) (hF : Six F) (l : List Nat) (hl : l ≠ []) (A : Option Addr) (c : Nat) (w : World) (hn : l.length < 1000000) (h : SlQ w (fun _ => True) A l c) :
    Calls Try.prog 16 #[fv F, .slice A l.length c] w fun e w' => e = .returned (.tuple #[.int .i64 (((tidy l).length - 1 : Nat) : Int), .bool true]) ∧ Below w.heap.size w w' := by
  have hb0 : Below w.heap.size w (w.alloc (.cells #[.int .i64 F.prim, .int .i64 F.size, .int .i64 F.base] 23)) := (Below.refl _ _).alloc (Nat.le_refl _) _
  have HF := Lib.hid (implField (fun _ => True) F hF (w.alloc (.cells #[.int .i64 F.prim, .int .i64 F.size, .int .i64 F.base] 23)) (fun _ _ => trivial))
  have HS := Lib.hid (h.below hb0)
  clear h
  unfold fv at HF ⊢
  go_enter Try.func16, Try.ntmps16
  go_wp2_with fail
  refine HF.out.mono ?_
  rintro e w1 ⟨f, rfl, hg, hb1, _⟩
  have HP := Lib.hid (implPoly (fun _ => True) f A l c w1 (fun _ _ => trivial) hn (HS.out.below hb1).rd)
  clear hg
  have hb1' := hb0.trans (hb1.mono (by simp))
  clear hb1 hb0
  go_wp2_with fail
  refine HP.out.mono ?_
  rintro e w2 ⟨v, x, rfl, hb2, h1, h2⟩
  have hb2' := hb1'.trans (hb2.mono hb1'.size)
  clear hb2 hb1'
  obtain ⟨rfl, p, rfl, hp⟩ := h2 hl
  have hle : (tidy l).length ≤ l.length := tidy_length l
  have HP := Lib.hid (polyDegree _ p f (tidy l) w2 hp (by omega))
  have hneq : ∀ W, (binOp .neq 58 .nilIface .nilIface).run Try.prog W = .ok (.bool false) W := fun W => rfl
  clear h1 h2 hp
  go_wp2_with fail
  refine HP.out.mono ?_
  rintro e w3 ⟨rfl, rfl⟩
  go_wp2_with fail
  go_ret2
  exact ⟨rfl, hb2'⟩

set_option maxRecDepth 100000 in
set_option maxHeartbeats 1600000 in
theorem fnRSMakes (w : World) (a : Int) (ha : (Lit.int .u8 a).wf = true) (A : Option Addr) (n c : Nat) (z : Nat → Int) (hnc : n ≤ c) (hcm : c ≤ maxLen) (hz : ∀ j, j < n → (Lit.int .i64 (z j)).wf = true) (h : Rd w A n (fun j => .int .i64 (z j))) :
    Calls Try.prog 4 #[.int .u8 a, .slice A n c] w fun e w' => e = .returned (.bool true) ∧ Below w.heap.size w w' := by
  obtain ⟨a0, a1⟩ := bd_u8 ha
  have HZ := Lib.hid (fun j hj => bd_i64 (hz j hj))
  clear hz ha
  by_cases hbig : (2147483647 : Int) < n
  · go_enter Try.func4, Try.ntmps4
    go_wp2_with fail
    go_ret
    exact ⟨rfl, Below.refl _ _⟩
  · have hn : n < 2147483648 := by omega
    have HH := Lib.hid h
    clear h
    go_enter Try.func4, Try.ntmps4
    go_wp2_with fail
    refine (rsField a a0 a1 w).mono ?_
    rintro e w1 ⟨F, rfl, hF, hb1⟩
    have hFb := hF.bounds
    have hb1' : Below w.heap.size w (w1.alloc (.cells #[.int .i64 F.prim, .int .i64 F.size, .int .i64 F.base] 23)) := hb1.alloc hb1.size _
    obtain ⟨l, hl, hll⟩ : ∃ l, elems F z (min n 60) = l ∧ l.length = min n 60 := ⟨_, rfl, elems_length _ _ _⟩
    have HE0 := (rsElements F ⟨hFb.1, hFb.2.1⟩ z A n c 60 60 rfl (by omega) (w1.alloc (.cells #[.int .i64 F.prim, .int .i64 F.size, .int .i64 F.base] 23)) (by omega) HZ.out (HH.out.below hb1'))
    rw [hl] at HE0
    have HE := Lib.hid HE0
    clear HE0
    have hAr : Arr (w1.alloc (.cells #[.int .i64 F.prim, .int .i64 F.size, .int .i64 F.base] 23)) 23 w1.heap.size [.int .i64 F.prim, .int .i64 F.size, .int .i64 F.base] := Arr.new _ _ _
    have hb2 : Below w1.heap.size w1 (w1.alloc (.cells #[.int .i64 F.prim, .int .i64 F.size, .int .i64 F.base] 23)) := (Below.refl _ _).alloc (Nat.le_refl _) _
    have hmem : ∀ W : World, Below (w1.heap.size + 1) (w1.alloc (.cells #[.int .i64 F.prim, .int .i64 F.size, .int .i64 F.base] 23)) W → Arr W 23 w1.heap.size [.int .i64 F.prim, .int .i64 F.size, .int .i64 F.base] := fun W hW => hAr.below hW (by simp)
    clear hb2
    unfold fv at HE ⊢
    go_wp2_with fail
    refine HE.out.mono ?_
    rintro e w2 ⟨v, rfl, hown, hb2⟩
    obtain ⟨A', c', rfl, hl', hlc, hcm', hsl⟩ := slq_of_own (Q := fun _ => True) hown (fun _ _ => trivial)
    have hlen : l.length ≤ 60 := by omega
    clear hown hl' hl hll
    have hbel : Below w.heap.size w w2 := hb1'.trans (hb2.mono hb1'.size)
    have hA2 := hAr.below hb2 (by simp)
    clear hb1' hb1 hb2 hAr hmem HE HH
    have hsz : w1.heap.size < w2.heap.size := hA2.lt
    obtain ⟨H0, hH0⟩ : ∃ H0, H0 = w1.heap.size := ⟨_, rfl⟩
    rw [← hH0] at hA2 hsz ⊢
    clear hH0
    have a0 := hA2.cell? 0
    have a1 := hA2.cell? 1
    have a2 := hA2.cell? 2
    simp only [List.getElem?_cons_zero, List.getElem?_cons_succ] at a0 a1 a2
    have HP := Lib.hid (polyMake F hF l A' c' w2 (by omega) hsl)
    have HS := Lib.hid hsl
    have HA := Lib.hid hA2
    clear hsl hA2
    unfold fv at HP
    go_wp2_with fail
    refine HP.out.mono ?_
    rintro e w3 ⟨q, r, rfl, hb3, hr, hq⟩
    have hA3 := HA.out.below hb3 (by omega)
    have hbel3 : Below w.heap.size w w3 := hbel.trans (hb3.mono hbel.size)
    by_cases hl0 : l = []
    · subst hl0
      have hr2 : r = false := by simpa using hr
      clear hr
      subst hr2
      clear hq
      go_wp2_with fail
      go_ret
      exact ⟨rfl, hbel3⟩
    · have hr2 : r = true := by simpa [hl0] using hr
      clear hr
      subst hr2
      obtain ⟨A3, c3, rfl, hs3⟩ := hq hl0
      clear hq
      have a0' := hA3.cell? 0
      have a1' := hA3.cell? 1
      have a2' := hA3.cell? 2
      simp only [List.getElem?_cons_zero, List.getElem?_cons_succ] at a0' a1' a2'
      have hz0 : ((l.length : Int) == 0) = false := by have := List.length_pos_iff.2 hl0; simp; omega
      have HD := Lib.hid (polyDegreeOf F hF l hl0 A' c' w3 (by omega) (HS.out.below hb3))
      have HT := Lib.hid (fun W hW => rsTidy l hl0 (by omega) A' c' (by have := HS.out.1; omega) W hW)
      have HS3 := Lib.hid hs3
      have HSr := Lib.hid (HS.out.below hb3)
      have hc3 := hs3.1
      have htl := tidy_length l
      have htn := List.length_pos_iff.2 (tidy_ne l hl0)
      clear hs3 a0 a1 a2
      unfold fv at HD
      go_wp2_with fail
      refine HD.out.mono ?_
      rintro e w4 ⟨rfl, hb4⟩
      have hT4 := Lib.hid (HT.out w4 (HSr.out.below hb4).rd)
      have hS4 := Lib.hid (HS3.out.below hb4)
      have hfin : ((((tidy l).length - 1 : Nat) : Int) == ((tidy l).length : Int) - 1) = true := by simp; omega
      have hbel4 : Below w.heap.size w w4 := hbel3.trans (hb4.mono hbel3.size)
      clear HP HS HA a0' a1' a2' HD HT HS3 HSr hb3 hb4 hA3
      go_wp2_with fail
      refine hT4.out.mono ?_
      rintro e w5 ⟨v, rfl, hown, hb5⟩
      obtain ⟨A5, c5, rfl, _, hlc5, hcm5, hsl⟩ := slq_of_own (Q := fun _ => True) hown (fun _ _ => trivial)
      have hS5 := Lib.hid (rsSame A3 A5 (tidy l).length (tidy l).length c3 c5 (fun j => (nth (tidy l) j : Nat)) (fun j => (nth (tidy l) j : Nat)) w5 (by omega) (by omega) (hS4.out.below hb5).rd hsl.rd)
      have hbel5 : Below w.heap.size w w5 := hbel4.trans (hb5.mono hbel4.size)
      clear hown hsl hT4 hS4 hb5 hbel4
      go_wp2_with fail
      refine hS5.out.mono ?_
      rintro e w6 ⟨b, rfl, hb, hb6⟩
      have hbt : b = true := hb.2 ⟨rfl, fun _ _ => rfl⟩
      subst hbt
      clear hb
      go_wp2_with fail
      go_ret
      exact ⟨rfl, hbel5.trans (hb6.mono hbel5.size)⟩
end Go.Proofs.Ythagfgfefkpikaa
