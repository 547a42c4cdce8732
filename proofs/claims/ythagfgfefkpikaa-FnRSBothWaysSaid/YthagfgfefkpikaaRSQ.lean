/-
  The statement FnRSSums, walked. No condition.
-/
import Derived.Test.YthagfgfefkpikaaRSP
namespace Go.Proofs.Ythagfgfefkpikaa
open Go.RowKit Go.Qz Go.Qz.RS
set_option linter.unusedVariables false

set_option maxRecDepth 100000 in
set_option maxHeartbeats 1600000 in
theorem fnRSSums (w : World) (a : Int) (ha : (Lit.int .u8 a).wf = true) (A : Option Addr) (n c : Nat) (z : Nat → Int) (hnc : n ≤ c) (hcm : c ≤ maxLen) (hz : ∀ j, j < n → (Lit.int .i64 (z j)).wf = true) (h : Rd w A n (fun j => .int .i64 (z j)))
    (B : Option Addr) (m d : Nat) (y : Nat → Int) (hmd : m ≤ d) (hdm : d ≤ maxLen) (hy : ∀ j, j < m → (Lit.int .i64 (y j)).wf = true) (h2 : Rd w B m (fun j => .int .i64 (y j))) :
    Calls Try.prog 5 #[.int .u8 a, .slice A n c, .slice B m d] w fun e w' => e = .returned (.bool true) ∧ Below w.heap.size w w' := by
  obtain ⟨a0, a1⟩ := bd_u8 ha
  have HZ := Lib.hid (fun j hj => bd_i64 (hz j hj))
  have HY := Lib.hid (fun j hj => bd_i64 (hy j hj))
  have HA := Lib.hid h
  have HB := Lib.hid h2
  clear hz hy ha h h2
  by_cases hbig : (2147483647 : Int) < n
  · go_enter Try.func5, Try.ntmps5
    go_wp2_with fail
    go_ret
    exact ⟨rfl, Below.refl _ _⟩
  by_cases hbig2 : (2147483647 : Int) < m
  · go_enter Try.func5, Try.ntmps5
    go_wp2_with fail
    go_ret
    exact ⟨rfl, Below.refl _ _⟩
  have hn : n < 2147483648 := by omega
  have hm : m < 2147483648 := by omega
  go_enter Try.func5, Try.ntmps5
  go_wp2_with fail
  refine (rsField a a0 a1 w).mono ?_
  rintro e w1 ⟨F, rfl, hF, hb1⟩
  have hFb := hF.bounds
  have hb1' : Below w.heap.size w (w1.alloc (.cells #[.int .i64 F.prim, .int .i64 F.size, .int .i64 F.base] 23)) := hb1.alloc hb1.size _
  have hAr : Arr (w1.alloc (.cells #[.int .i64 F.prim, .int .i64 F.size, .int .i64 F.base] 23)) 23 w1.heap.size [.int .i64 F.prim, .int .i64 F.size, .int .i64 F.base] := Arr.new _ _ _
  obtain ⟨H0, hH0⟩ : ∃ H0, H0 = w1.heap.size := ⟨_, rfl⟩
  obtain ⟨w2, hw2⟩ : ∃ w2, w2 = w1.alloc (.cells #[.int .i64 F.prim, .int .i64 F.size, .int .i64 F.base] 23) := ⟨_, rfl⟩
  rw [← hw2, ← hH0] at hAr
  rw [← hw2] at hb1'
  have HW := Lib.hid hw2
  have HH := Lib.hid hH0
  clear hw2 hH0 hb1
  unfold fv
  go_wp2_with fail
  rw [← HW.out, ← HH.out]
  have c0 := hAr.cell? 0
  have c1 := hAr.cell? 1
  have c2 := hAr.cell? 2
  simp only [List.getElem?_cons_zero, List.getElem?_cons_succ] at c0 c1 c2
  have HAr := Lib.hid hAr
  have keep : ∀ W W' : World, (W.cell? ⟨H0, 0, none⟩ = some (.int .i64 F.prim) ∧ W.cell? ⟨H0, 1, none⟩ = some (.int .i64 F.size) ∧ W.cell? ⟨H0, 2, none⟩ = some (.int .i64 F.base) ∧ Hid (Below w2.heap.size w2 W)) → Below W.heap.size W W' →
      W'.cell? ⟨H0, 0, none⟩ = some (.int .i64 F.prim) ∧ W'.cell? ⟨H0, 1, none⟩ = some (.int .i64 F.size) ∧ W'.cell? ⟨H0, 2, none⟩ = some (.int .i64 F.base) ∧ Hid (Below w2.heap.size w2 W') := fun W W' hW hb => by
    have hB : Below w2.heap.size w2 W' := hW.2.2.2.out.trans (hb.mono hW.2.2.2.out.size)
    have hA := HAr.out.below hB HAr.out.lt
    have d0 := hA.cell? 0
    have d1 := hA.cell? 1
    have d2 := hA.cell? 2
    simp only [List.getElem?_cons_zero, List.getElem?_cons_succ] at d0 d1 d2
    exact ⟨d0, d1, d2, Lib.hid hB⟩
  have HX := fun (W : World) (hW : W.cell? ⟨H0, 0, none⟩ = some (.int .i64 F.prim) ∧ W.cell? ⟨H0, 1, none⟩ = some (.int .i64 F.size) ∧ W.cell? ⟨H0, 2, none⟩ = some (.int .i64 F.base) ∧ Hid (Below w2.heap.size w2 W)) (A : Option Addr) (n c : Nat) (z : Nat → Int) (h : Rd w A n (fun j => .int .i64 (z j))) (hn : n < 2147483648) (hz : ∀ j, j < n → -9223372036854775808 ≤ z j ∧ z j ≤ 9223372036854775807) =>
    (rsPoly F hF z A n c 60 60 rfl (by omega) (by omega) W (by omega) hz (h.below (hb1'.trans (hW.2.2.2.out.mono hb1'.size)))).mono (R' := fun e w' => ∃ A' c', e = .returned (.slice A' (polyOf F z (min n 60)).length c') ∧ Hid (SlQ w' (fun _ => True) A' (polyOf F z (min n 60)) c') ∧ Hid (Below W.heap.size W w') ∧ (w'.cell? ⟨H0, 0, none⟩ = some (.int .i64 F.prim) ∧ w'.cell? ⟨H0, 1, none⟩ = some (.int .i64 F.size) ∧ w'.cell? ⟨H0, 2, none⟩ = some (.int .i64 F.base) ∧ Hid (Below w2.heap.size w2 w'))) (by
      rintro e w' ⟨A', c', rfl, hs, hb⟩
      exact ⟨A', c', rfl, Lib.hid hs, Lib.hid hb, keep W w' hW hb⟩)
  unfold fv at HX
  have HX := Lib.hid HX
  have hs0 := keep w2 w2.drew ⟨c0, c1, c2, Lib.hid (Below.refl _ _)⟩ (Below.refl _ _).drew
  clear HW HH hAr keep
  go_region_held3 (fun w' => w'.cell? ⟨H0, 0, none⟩ = some (.int .i64 F.prim) ∧ w'.cell? ⟨H0, 1, none⟩ = some (.int .i64 F.size) ∧ w'.cell? ⟨H0, 2, none⟩ = some (.int .i64 F.base) ∧ Hid (Below w2.heap.size w2 w'))
    (first | exact hs0 | exact hs3)
    (first | (go_at_call 19; refine (HX.out _ (by assumption) _ _ _ _ (by first | exact HA.out | exact HB.out) (by omega) (by first | exact HZ.out | exact HY.out)).mono ?_; rintro e w3 ⟨A3, c3, rfl, hq3, hb3, hs3⟩))
  rename_i wa Aa ca hqa hba hsa hHeld
  clear hHeld hs0
  obtain ⟨P, hP⟩ : ∃ P, P = polyOf F z (min n 60) := ⟨_, rfl⟩
  obtain ⟨R, hR⟩ : ∃ R, R = polyOf F y (min m 60) := ⟨_, rfl⟩
  have hP1 : P ≠ [] := by rw [hP]; exact polyOf_ne _ _ _
  have hR1 : R ≠ [] := by rw [hR]; exact polyOf_ne _ _ _
  have hP2 : tidy P = P := by rw [hP]; exact polyOf_tidy _ _ _
  have hR2 : tidy R = R := by rw [hR]; exact polyOf_tidy _ _ _
  have hP3 : ∀ j, nth P j < 65536 := fun j => by have := polyOf_lt F hFb.1 z (min n 60) j; rw [← hP] at this; omega
  have hR3 : ∀ j, nth R j < 65536 := fun j => by have := polyOf_lt F hFb.1 y (min m 60) j; rw [← hR] at this; omega
  have hP4 : P.length ≤ 61 := by have := polyOf_length F z (min n 60); rw [← hP] at this; omega
  have hR4 : R.length ≤ 61 := by have := polyOf_length F y (min m 60); rw [← hR] at this; omega
  rw [← hP, ← hR]
  rw [← hP] at hqa
  rw [← hR] at hq3
  have S1 : SlQ w3 (fun _ => True) Aa P ca := hqa.out.below hb3.out
  have S2 : SlQ w3 (fun _ => True) A3 R c3 := hq3.out
  obtain ⟨d0, d1, d2, hB⟩ := hs3
  have hbel : Below w.heap.size w w3 := hb1'.trans (hB.out.mono hb1'.size)
  have hpl : (plus P R).length ≤ max P.length R.length := Nat.le_trans (tidy_length _) (by rw [rawTo_length]; exact Nat.le_refl _)
  have hpl2 : (plus P R).length ≤ 61 := by omega
  have HPlus := polyPlus F hF P R hP1 hR1 hP2 hR2 hP3 hR3 (by omega) (by omega) Aa A3 ca c3 w3 S1 S2
  unfold fv at HPlus
  have HPlus := Lib.hid HPlus
  have HSPlus := Lib.hid (fun W hA hB => rsPlus P R hP1 (by omega) (by omega) hP3 hR3 Aa A3 ca c3 W hA hB)
  have HS1 := Lib.hid S1
  have HS2 := Lib.hid S2
  clear hP hR hP1 hR1 hP2 hR2 hP3 hR3 hqa hq3 hba hb3 hsa hB S1 S2 hpl HX HAr c0 c1 c2 hb1' HZ HY HA HB
  go_wp2_with fail
  refine HPlus.out.mono ?_
  rintro e w4 ⟨A5, c5, rfl, hb4, hs4⟩
  have hbel4 := hbel.trans (hb4.mono hbel.size)
  have HPl := Lib.hid (HSPlus.out w4 (HS1.out.below hb4).rd (HS2.out.below hb4).rd)
  have HS4 := Lib.hid hs4
  clear hs4 hb4 HPlus HSPlus HS1 HS2 d0 d1 d2 hbel
  go_wp2_with fail
  refine HPl.out.mono ?_
  rintro e w5 ⟨v, rfl, hown, hb5⟩
  obtain ⟨A6, c6, rfl, _, _, _, hs6⟩ := slq_of_own (Q := fun _ => True) hown (fun _ _ => trivial)
  have hbel5 := hbel4.trans (hb5.mono hbel4.size)
  have HSame := Lib.hid (rsSame A5 A6 (plus P R).length (plus P R).length c5 c6 (fun j => (nth (plus P R) j : Nat)) (fun j => (nth (plus P R) j : Nat)) w5 (by omega) (by omega) (HS4.out.below hb5).rd hs6.rd)
  clear hown hs6 hb5 HPl HS4 hbel4
  go_wp2_with fail
  refine HSame.out.mono ?_
  rintro e w6 ⟨b, rfl, hb, hb6⟩
  have hbt : b = true := hb.2 ⟨rfl, fun _ _ => rfl⟩
  subst hbt
  clear hb
  go_wp2_with fail
  go_ret
  exact ⟨rfl, hbel5.trans (hb6.mono hbel5.size)⟩
end Go.Proofs.Ythagfgfefkpikaa
