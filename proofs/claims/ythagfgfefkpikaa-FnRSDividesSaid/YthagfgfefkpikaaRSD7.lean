/-
  The statement FnRSDivides, walked. No condition.
-/
import Derived.Test.YthagfgfefkpikaaRSD5
import Derived.Test.YthagfgfefkpikaaRSD6
namespace Go.Proofs.Ythagfgfefkpikaa
open Go.RowKit Go.Qz Go.Qz.RS
set_option linter.unusedVariables false

set_option maxRecDepth 100000 in
set_option maxHeartbeats 1600000 in
theorem fnRSDivides (w : World) (a : Int) (ha : (Lit.int .u8 a).wf = true) (A : Option Addr) (n c : Nat) (z : Nat → Int) (hnc : n ≤ c) (hcm : c ≤ maxLen) (hz : ∀ j, j < n → (Lit.int .i64 (z j)).wf = true) (h : Rd w A n (fun j => .int .i64 (z j)))
    (B : Option Addr) (m d : Nat) (y : Nat → Int) (hmd : m ≤ d) (hdm : d ≤ maxLen) (hy : ∀ j, j < m → (Lit.int .i64 (y j)).wf = true) (h2 : Rd w B m (fun j => .int .i64 (y j))) :
    Calls Try.prog 6 #[.int .u8 a, .slice A n c, .slice B m d] w fun e w' => e = .returned (.bool true) ∧ Below w.heap.size w w' := by
  obtain ⟨a0, a1⟩ := bd_u8 ha
  have HZ := Lib.hid (fun j hj => bd_i64 (hz j hj))
  have HY := Lib.hid (fun j hj => bd_i64 (hy j hj))
  have HA := Lib.hid h
  have HB := Lib.hid h2
  clear hz hy ha h h2
  by_cases hbig : (2147483647 : Int) < n
  · go_enter Try.func6, Try.ntmps6
    go_wp2_with fail
    go_ret
    exact ⟨rfl, Below.refl _ _⟩
  by_cases hbig2 : (2147483647 : Int) < m
  · go_enter Try.func6, Try.ntmps6
    go_wp2_with fail
    go_ret
    exact ⟨rfl, Below.refl _ _⟩
  have hn : n < 2147483648 := by omega
  have hm : m < 2147483648 := by omega
  go_enter Try.func6, Try.ntmps6
  go_wp2_with fail
  refine (rsField a a0 a1 w).mono ?_
  rintro e w1 ⟨F, rfl, hF, hb1⟩
  have hFb := hF.bounds
  have hb1' : Below w.heap.size w (w1.alloc (.cells #[.int .i64 F.prim, .int .i64 F.size, .int .i64 F.base] 23)) := hb1.alloc hb1.size _
  have hAr : Arr (w1.alloc (.cells #[.int .i64 F.prim, .int .i64 F.size, .int .i64 F.base] 23)) 23 w1.heap.size [.int .i64 F.prim, .int .i64 F.size, .int .i64 F.base] := Arr.new _ _ _
  obtain ⟨H0, hH0⟩ : ∃ H0, H0 = w1.heap.size := ⟨_, rfl⟩
  obtain ⟨w2, hw2⟩ : ∃ w2, w2 = w1.alloc (.cells #[.int .i64 F.prim, .int .i64 F.size, .int .i64 F.base] 23) := ⟨_, rfl⟩
  rw [← hw2, ← hH0] at hAr
  rw [← hw2] at hb1'
  have HW := Lib.hid hw2
  have HH := Lib.hid hH0
  clear hw2 hH0 hb1
  unfold fv
  go_wp2_with fail
  rw [← HW.out, ← HH.out]
  have c0 := hAr.cell? 0
  have c1 := hAr.cell? 1
  have c2 := hAr.cell? 2
  simp only [List.getElem?_cons_zero, List.getElem?_cons_succ] at c0 c1 c2
  have HAr := Lib.hid hAr
  have keep : ∀ W W' : World, (W.cell? ⟨H0, 0, none⟩ = some (.int .i64 F.prim) ∧ W.cell? ⟨H0, 1, none⟩ = some (.int .i64 F.size) ∧ W.cell? ⟨H0, 2, none⟩ = some (.int .i64 F.base) ∧ Hid (Below w2.heap.size w2 W)) → Below W.heap.size W W' →
      W'.cell? ⟨H0, 0, none⟩ = some (.int .i64 F.prim) ∧ W'.cell? ⟨H0, 1, none⟩ = some (.int .i64 F.size) ∧ W'.cell? ⟨H0, 2, none⟩ = some (.int .i64 F.base) ∧ Hid (Below w2.heap.size w2 W') := fun W W' hW hb => by
    have hB : Below w2.heap.size w2 W' := hW.2.2.2.out.trans (hb.mono hW.2.2.2.out.size)
    have hA := HAr.out.below hB HAr.out.lt
    have d0 := hA.cell? 0
    have d1 := hA.cell? 1
    have d2 := hA.cell? 2
    simp only [List.getElem?_cons_zero, List.getElem?_cons_succ] at d0 d1 d2
    exact ⟨d0, d1, d2, Lib.hid hB⟩
  have HX := fun (W : World) (hW : W.cell? ⟨H0, 0, none⟩ = some (.int .i64 F.prim) ∧ W.cell? ⟨H0, 1, none⟩ = some (.int .i64 F.size) ∧ W.cell? ⟨H0, 2, none⟩ = some (.int .i64 F.base) ∧ Hid (Below w2.heap.size w2 W)) (A : Option Addr) (n c : Nat) (z : Nat → Int) (M : Int) (hM0 : 0 < M) (hM1 : M ≤ 1000) (h : Rd w A n (fun j => .int .i64 (z j))) (hn : n < 2147483648) (hz : ∀ j, j < n → -9223372036854775808 ≤ z j ∧ z j ≤ 9223372036854775807) =>
    (rsPoly F hF z A n c M.toNat M (by omega) (by omega) (by omega) W (by omega) hz (h.below (hb1'.trans (hW.2.2.2.out.mono hb1'.size)))).mono (R' := fun e w' => ∃ A' c', e = .returned (.slice A' (polyOf F z (min n M.toNat)).length c') ∧ Hid (SlQ w' (fun _ => True) A' (polyOf F z (min n M.toNat)) c') ∧ Hid (Below W.heap.size W w') ∧ (w'.cell? ⟨H0, 0, none⟩ = some (.int .i64 F.prim) ∧ w'.cell? ⟨H0, 1, none⟩ = some (.int .i64 F.size) ∧ w'.cell? ⟨H0, 2, none⟩ = some (.int .i64 F.base) ∧ Hid (Below w2.heap.size w2 w'))) (by
      rintro e w' ⟨A', c', rfl, hs, hb⟩
      exact ⟨A', c', rfl, Lib.hid hs, Lib.hid hb, keep W w' hW hb⟩)
  unfold fv at HX
  have HX := Lib.hid HX
  have hs0 := keep w2 w2.drew ⟨c0, c1, c2, Lib.hid (Below.refl _ _)⟩ (Below.refl _ _).drew
  clear HW HH hAr keep
  go_region_held3 (fun w' => w'.cell? ⟨H0, 0, none⟩ = some (.int .i64 F.prim) ∧ w'.cell? ⟨H0, 1, none⟩ = some (.int .i64 F.size) ∧ w'.cell? ⟨H0, 2, none⟩ = some (.int .i64 F.base) ∧ Hid (Below w2.heap.size w2 w'))
    (first | exact hs0 | exact hs3)
    (first | (go_at_call 19; refine (HX.out _ (by assumption) _ _ _ _ _ (by omega) (by omega) (by first | exact HA.out | exact HB.out) (by omega) (by first | exact HZ.out | exact HY.out)).mono ?_; rintro e w3 ⟨A3, c3, rfl, hq3, hb3, hs3⟩))
  rename_i wa Aa ca hqa hba hsa hHeld
  clear hHeld hs0
  obtain ⟨P, hP⟩ : ∃ P, P = polyOf F z (min n 40) := ⟨_, rfl⟩
  obtain ⟨R, hR⟩ : ∃ R, R = polyOf F y (min m 20) := ⟨_, rfl⟩
  have hP1 : P ≠ [] := by rw [hP]; exact polyOf_ne _ _ _
  have hR1 : R ≠ [] := by rw [hR]; exact polyOf_ne _ _ _
  have hP2 : tidy P = P := by rw [hP]; exact polyOf_tidy _ _ _
  have hR2 : tidy R = R := by rw [hR]; exact polyOf_tidy _ _ _
  have hP3 : El F P := fun j => by have := polyOf_lt F hFb.1 z (min n 40) j; rw [← hP] at this; omega
  have hR3 : El F R := fun j => by have := polyOf_lt F hFb.1 y (min m 20) j; rw [← hR] at this; omega
  have hP4 : P.length ≤ 41 := by have := polyOf_length F z (min n 40); rw [← hP] at this; omega
  have hR4 : R.length ≤ 21 := by have := polyOf_length F y (min m 20); rw [← hR] at this; omega
  rw [← hP, ← hR]
  rw [show Int.toNat 40 = 40 from rfl, ← hP] at hqa
  rw [show Int.toNat 20 = 20 from rfl, ← hR] at hq3
  have S1 : SlQ w3 (fun _ => True) Aa P ca := hqa.out.below hb3.out
  have S2 : SlQ w3 (fun _ => True) A3 R c3 := hq3.out
  obtain ⟨d0, d1, d2, hB⟩ := hs3
  have hbel : Below w.heap.size w w3 := hb1'.trans (hB.out.mono hb1'.size)
  have HA3 := Lib.hid (HAr.out.below hB.out HAr.out.lt)
  have HS1 := Lib.hid S1
  have HS2 := Lib.hid S2
  clear hP hR hqa hq3 hba hb3 hsa hB S1 S2 HX HAr c0 c1 c2 hb1' HZ HY HA HB
  by_cases hR0 : R = [0]
  · have hl1 : R.length = 1 := by rw [hR0]; rfl
    have HS2' : Hid (SlQ w3 (fun _ => True) A3 [0] c3) := Lib.hid (by rw [← hR0]; exact HS2.out)
    have HOV := polyOverNo F hF P hP1 (by omega) Aa A3 ca c3 w3 HS1.out HS2'.out
    unfold fv at HOV
    have HOV := Lib.hid HOV
    have HZR := Lib.hid (fun W hW => rsZero R hR1 (by omega) A3 c3 true (by simp [hR0]) W hW)
    rw [hl1] at HZR ⊢
    have hRl : Hid (R.length = 1) := Lib.hid hl1
    clear hP1 hR1 hP2 hR2 hP3 hR3 hR0 hl1 HS2'
    go_wp2_with fail
    refine HOV.out.mono ?_
    rintro e w4 ⟨rfl, hb4⟩
    have hbel4 := hbel.trans (hb4.mono hbel.size)
    have HZ4 := Lib.hid (HZR.out w4 (by have := (HS2.out.below hb4).rd; rwa [hRl.out] at this))
    clear hb4 hbel d0 d1 d2
    go_wp2_with fail
    refine HZ4.out.mono ?_
    rintro e w5 ⟨rfl, rfl⟩
    go_wp2_with fail
    go_ret
    exact ⟨rfl, hbel4⟩
  · have HOV := polyOver F hF P R hP1 hR1 hP2 hR2 hP3 hR3 (by omega) (by omega) hR0 Aa A3 ca c3 w3 HS1.out HS2.out
    unfold fv at HOV
    have HOV := Lib.hid HOV
    have HZR := Lib.hid (fun W hW => rsZero R hR1 (by omega) A3 c3 false (by simp [hR0]) W hW)
    have HP1 := Lib.hid hP1
    have HP2 := Lib.hid hP2
    have HP3 := Lib.hid hP3
    have HR1 := Lib.hid hR1
    have HR3 := Lib.hid hR3
    have hRp := List.length_pos_iff.2 hR1
    clear hP1 hP2 hR1 hR2 hP3 hR3 hR0
    go_wp2_with fail
    refine HOV.out.mono ?_
    rintro e w4 ⟨A5, c5, A6, c6, lq, lr, rfl, hb4, hsq, hsr, hdv, hor⟩
    have hbel4 := hbel.trans (hb4.mono hbel.size)
    have HA4 := Lib.hid (HA3.out.below hb4 HA3.out.lt)
    have HS14 := Lib.hid (HS1.out.below hb4)
    have HS24 := Lib.hid (HS2.out.below hb4)
    have HSQ4 := Lib.hid hsq
    have HSR4 := Lib.hid hsr
    have HV := Lib.hid hdv
    have HO := Lib.hid hor
    have HLAW := Lib.hid (Dv.law hF HP2.out HP1.out HR1.out HR3.out HV.out)
    have hql := HV.out.ql
    have hrl := HV.out.rl
    have hqn := List.length_pos_iff.2 HV.out.qn
    have hrn := List.length_pos_iff.2 HV.out.rn
    have t1 : ((lq.length : Int) == 0) = false := by simpa using HV.out.qn
    have t2 : ((lr.length : Int) == 0) = false := by simpa using HV.out.rn
    have t3 : decide ((60 : Int) < (lq.length : Int)) = false := by simp; omega
    have t4 : decide ((60 : Int) < (lr.length : Int)) = false := by simp; omega
    obtain ⟨a0, a1, a2⟩ := fcells HA4.out
    have HZ4 := Lib.hid (HZR.out w4 HS24.out.rd)
    have HIN := rsIn F hF lq (by omega) HV.out.qe A5 c5 w4 HSQ4.out.rd
    unfold fv at HIN
    have HIN := Lib.hid HIN
    clear hb4 hsq hsr hdv hor hbel d0 d1 d2 HOV HZR HS1 HS2 HA3
    go_wp2_with fail
    refine HZ4.out.mono ?_
    rintro e w5 ⟨rfl, rfl⟩
    go_wp2_with fail
    refine HIN.out.mono ?_
    rintro e w5 ⟨rfl, hb5⟩
    have hbel5 := hbel4.trans (hb5.mono hbel4.size)
    have HA5 := Lib.hid (HA4.out.below hb5 HA4.out.lt)
    have HS15 := Lib.hid (HS14.out.below hb5)
    have HS25 := Lib.hid (HS24.out.below hb5)
    have HSQ5 := Lib.hid (HSQ4.out.below hb5)
    have HSR5 := Lib.hid (HSR4.out.below hb5)
    obtain ⟨b0, b1, b2⟩ := fcells HA5.out
    have HIN2 := rsIn F hF lr (by omega) HV.out.re A6 c6 w5 HSR5.out.rd
    unfold fv at HIN2
    have HIN2 := Lib.hid HIN2
    clear hb5 hbel4 a0 a1 a2 HIN HZ4 HA4 HS14 HS24 HSQ4 HSR4
    go_wp2_with fail
    refine HIN2.out.mono ?_
    rintro e w6 ⟨rfl, hb6⟩
    have hbel6 := hbel5.trans (hb6.mono hbel5.size)
    have HA6 := Lib.hid (HA5.out.below hb6 HA5.out.lt)
    have HS16 := Lib.hid (HS15.out.below hb6)
    have HS26 := Lib.hid (HS25.out.below hb6)
    have HSQ6 := Lib.hid (HSQ5.out.below hb6)
    have HSR6 := Lib.hid (HSR5.out.below hb6)
    obtain ⟨a0, a1, a2⟩ := fcells HA6.out
    have HPR := rsProduct F hF lq R HV.out.qn HR1.out (by omega) (by omega) HV.out.qe HR3.out A5 A3 c5 c3 w6 HSQ6.out.rd HS26.out.rd
    unfold fv at HPR
    have HPR := Lib.hid HPR
    have hpl := prod_length F lq R
    have hpn := prod_ne (F := F) HV.out.qn HR1.out
    have HPN := Lib.hid hpn
    have HPE := Lib.hid (prod_el hF HV.out.qe HR3.out)
    have HSUM := Lib.hid (fun W A c hA hB => rsPlus (prod F lq R) lr HPN.out (by omega) (by omega) (fun j => by have := HPE.out j; omega) (fun j => by have := HV.out.re j; omega) A A6 c c6 W hA hB)
    rw [HLAW.out] at HSUM
    clear hb6 hbel5 b0 b1 b2 HIN2 HA5 HS15 HS25 HSQ5 HSR5 hpn
    obtain ⟨pp, hpp⟩ : ∃ pp, pp = prod F lq R := ⟨_, rfl⟩
    rw [← hpp] at HPR hpl HSUM
    clear hpp HPN HPE HLAW
    by_cases hlt : lr.length < R.length
    · have hlt1 : (lr.length : Int) < (R.length : Int) := by omega
      clear HO
      go_wp2_with fail
      refine HPR.out.mono ?_
      rintro e w7 ⟨v, rfl, hown, hb7⟩
      obtain ⟨A7, c7, rfl, _, _, _, hs7⟩ := slq_of_own (Q := fun _ => True) hown (fun _ _ => trivial)
      have hbel7 := hbel6.trans (hb7.mono hbel6.size)
      have HS17 := Lib.hid (HS16.out.below hb7)
      have HP7 := Lib.hid (HSUM.out w7 A7 c7 hs7.rd (HSR6.out.below hb7).rd)
      clear hown hs7 hb7 hbel6 a0 a1 a2 HPR HA6 HS16 HS26 HSQ6 HSR6
      go_wp2_with fail
      refine HP7.out.mono ?_
      rintro e w8 ⟨v, rfl, hown, hb8⟩
      obtain ⟨A8, c8, rfl, _, _, _, hs8⟩ := slq_of_own (Q := fun _ => True) hown (fun _ _ => trivial)
      have hbel8 := hbel7.trans (hb8.mono hbel7.size)
      have HSame := Lib.hid (rsSame A8 Aa P.length P.length c8 ca (fun j => (nth P j : Nat)) (fun j => (nth P j : Nat)) w8 (by omega) (by omega) hs8.rd (HS17.out.below hb8).rd)
      clear hown hs8 hb8 hbel7 HP7 HS17
      go_wp2_with fail
      refine HSame.out.mono ?_
      rintro e w9 ⟨b, rfl, hb, hb9⟩
      have hbt : b = true := hb.2 ⟨rfl, fun _ _ => rfl⟩
      subst hbt
      clear hb
      go_wp2_with fail
      go_ret
      exact ⟨rfl, hbel8.trans (hb9.mono hbel8.size)⟩
    · have hl0 : lr = [0] := by rcases HO.out with h | h; exact absurd h hlt; exact h
      have hlt1 : decide ((lr.length : Int) < (R.length : Int)) = false := by simp; omega
      have hlt2 : decide (lr.length < R.length) = false := by simp; omega
      have HZ6 := Lib.hid (rsZero lr HV.out.rn (by omega) A6 c6 true (by simp [hl0]) w6 HSR6.out.rd)
      clear HO hl0
      go_wp2_with fail
      refine HZ6.out.mono ?_
      rintro e w7 ⟨rfl, rfl⟩
      go_wp2_with fail
      refine HPR.out.mono ?_
      rintro e w7 ⟨v, rfl, hown, hb7⟩
      obtain ⟨A7, c7, rfl, _, _, _, hs7⟩ := slq_of_own (Q := fun _ => True) hown (fun _ _ => trivial)
      have hbel7 := hbel6.trans (hb7.mono hbel6.size)
      have HS17 := Lib.hid (HS16.out.below hb7)
      have HP7 := Lib.hid (HSUM.out w7 A7 c7 hs7.rd (HSR6.out.below hb7).rd)
      clear hown hs7 hb7 hbel6 a0 a1 a2 HPR HA6 HS16 HS26 HSQ6 HSR6 HZ6
      go_wp2_with fail
      refine HP7.out.mono ?_
      rintro e w8 ⟨v, rfl, hown, hb8⟩
      obtain ⟨A8, c8, rfl, _, _, _, hs8⟩ := slq_of_own (Q := fun _ => True) hown (fun _ _ => trivial)
      have hbel8 := hbel7.trans (hb8.mono hbel7.size)
      have HSame := Lib.hid (rsSame A8 Aa P.length P.length c8 ca (fun j => (nth P j : Nat)) (fun j => (nth P j : Nat)) w8 (by omega) (by omega) hs8.rd (HS17.out.below hb8).rd)
      clear hown hs8 hb8 hbel7 HP7 HS17
      go_wp2_with fail
      refine HSame.out.mono ?_
      rintro e w9 ⟨b, rfl, hb, hb9⟩
      have hbt : b = true := hb.2 ⟨rfl, fun _ _ => rfl⟩
      subst hbt
      clear hb
      go_wp2_with fail
      go_ret
      exact ⟨rfl, hbel8.trans (hb9.mono hbel8.size)⟩
end Go.Proofs.Ythagfgfefkpikaa
