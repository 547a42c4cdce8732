/-
  runEuclideanAlgorithm, walked. No condition beyond the bounds that the theorem states.
-/
import Derived.Test.YtiielblnmfeapaaGreatDoorRSG6
import Derived.Test.YtiielblnmfeapaaGreatDoorRSE4
namespace Go.Proofs.YtiielblnmfeapaaGreatDoor
open Go.RowKit Go.Qz Go.Qz.RS
set_option linter.unusedVariables false

/-- Euclid's algorithm told the locator and the evaluator. -/
def EuPost (F : Fld) (f : Nat) (si om : Nat → Nat) (w : World) (e : Ending) (w' : World) : Prop :=
  ∃ ps po ls lo, e = .returned (.tuple #[.pointer (some ⟨ps, 0, none⟩), .pointer (some ⟨po, 0, none⟩), .nilIface]) ∧ PolyQ w' (fun _ => True) ps f ls ∧ PolyQ w' (fun _ => True) po f lo ∧ Below w.heap.size w w' ∧
    tidy ls = ls ∧ El F ls ∧ (∀ n, co ls n = si n) ∧ tidy lo = lo ∧ El F lo ∧ (∀ n, co lo n = om n) ∧ ls.length ≤ 10000 ∧ lo.length ≤ 10000

set_option maxRecDepth 100000 in
set_option maxHeartbeats 12800000 in
theorem euclid (F : Fld) (hF : Six F) (S : Ser F hF) (si om : Nat → Nat) (M D pa pb f : Nat) (hM : 2 ≤ M) (hMl : M ≤ 2000) (b0 : List Nat) (hb0l : b0.length ≤ M) (hI : EuInv S M (monL M 1) b0 [0] [1])
    (hend : ∀ rl rr tl tt, EuInv S M rl rr tl tt → 2 * (rr.length - 1) < M → ∃ k, k < F.size ∧ k ≠ 0 ∧ (∀ i, co tt i = mul F (si i) k) ∧ (∀ i, co rr i = mul F (om i) k)) (hsi0 : si 0 = 1) (hsi : ∀ i, si i < F.size) (hom : ∀ i, om i < F.size)
    (w : World) (hD : Arr w 150 D [.pointer (some ⟨f, 0, none⟩)]) (ha : PolyQ w (fun _ => True) pa f (monL M 1)) (hb : PolyQ w (fun _ => True) pb f b0) (hg : GFQ w (fun _ => True) f F) :
    Calls Tryz.prog 92 #[.pointer (some ⟨D, 0, none⟩), .pointer (some ⟨pa, 0, none⟩), .pointer (some ⟨pb, 0, none⟩), .int .i64 M] w (EuPost F f si om w) := by
  have hs := hF.bounds
  have hml := monL_len M
  have hbp := List.length_pos_iff.2 hI.nR
  have c0 := hD.cell? 0
  simp only [List.getElem?_cons_zero] at c0
  have hDl := hD.lt
  have HA := Lib.hid ha
  have HB := Lib.hid hb
  have HG := Lib.hid hg
  have HI := Lib.hid hI
  have HEND := Lib.hid hend
  have HS0 := Lib.hid hsi0
  have HSI := Lib.hid hsi
  have HOM := Lib.hid hom
  have HD := Lib.hid hD
  have HDA := Lib.hid (polyDegree (fun _ => True) pa f (monL M 1) w ha (by omega))
  have HDB := Lib.hid (polyDegree (fun _ => True) pb f b0 w hb (by omega))
  have HZ0 := Lib.hid (gfZero (fun _ => True) F f w hg)
  have HO0 := Lib.hid (gfOne (fun _ => True) F f w hg)
  rw [hml, Nat.add_sub_cancel] at HDA
  obtain ⟨db, hdb⟩ : ∃ db, db = b0.length - 1 := ⟨_, rfl⟩
  rw [← hdb] at HDB
  have hlt0 : ((M : Int) < (db : Int)) = False := by simp; omega
  have hneq2 : ∀ W, (binOp .neq 44 .nilIface .nilIface).run Tryz.prog W = .ok (.bool false) W := fun W => rfl
  clear ha hb hg hI hend hsi0 hsi hom hD hdb hml
  go_enter Tryz.func92, Tryz.ntmps92
  go_wp2_with fail
  refine HDA.out.mono ?_
  rintro e w1 ⟨rfl, rfl⟩
  go_wp2_with fail
  refine HDB.out.mono ?_
  rintro e w1 ⟨rfl, rfl⟩
  go_wp2_with fail
  refine HZ0.out.mono ?_
  rintro e w1 ⟨⟨z0, rfl, hz0⟩, rfl⟩
  have HZZ := Lib.hid hz0
  clear hz0
  go_wp2_with fail
  refine HO0.out.mono ?_
  rintro e w1 ⟨o0, rfl, ho0, rfl⟩
  have HOO := Lib.hid ho0
  clear ho0 HDA HDB HZ0 HO0 hlt0
  go_wp2_with fail
  go_loopg [11, 12, 13, 14] (b0.length) (fun gk u v x y wr => ∃ pl pr ql qt rl rr tl tt, u = .pointer (some ⟨pl, 0, none⟩) ∧ v = .pointer (some ⟨pr, 0, none⟩) ∧ x = .pointer (some ⟨ql, 0, none⟩) ∧ y = .pointer (some ⟨qt, 0, none⟩) ∧
    Hid (PolyQ wr (fun _ => True) pl f rl) ∧ Hid (PolyQ wr (fun _ => True) pr f rr) ∧ Hid (PolyQ wr (fun _ => True) ql f tl) ∧ Hid (PolyQ wr (fun _ => True) qt f tt) ∧ Hid (EuInv S M rl rr tl tt) ∧ Hid (Below w.heap.size w wr) ∧ Hid (rr.length ≤ gk))
  case atStart => exact ⟨pa, pb, z0, o0, monL M 1, b0, [0], [1], rfl, rfl, rfl, rfl, HA, HB, HZZ, HOO, HI, Lib.hid (Below.refl _ _), Lib.hid (Nat.le_refl _)⟩
  case round =>
    obtain ⟨pl, pr, ql, qt, rl, rr, tl, tt, rfl, rfl, rfl, rfl, HL, HR, HTL, HTT, HV, HBL, HK⟩ := hrel
    clear HA HB HZZ HOO HI c0
    have c0 : wr.cell? ⟨D, 0, none⟩ = some (.pointer (some ⟨f, 0, none⟩)) := by
      have := (HBL.out.cell (p := ⟨D, 0, none⟩) hDl).trans (HD.out.cell? 0)
      simpa using this
    have hrp := List.length_pos_iff.2 HV.out.nR
    have hrl1 := HV.out.ll
    have hrl2 := HV.out.lt
    have htl1 := HV.out.b1
    have htl2 := HV.out.b2
    have hrlp := List.length_pos_iff.2 HV.out.nL
    obtain ⟨dr, hdr⟩ : ∃ dr, dr = rr.length - 1 := ⟨_, rfl⟩
    have hdr2 : dr + 1 = rr.length := by omega
    have HDR := Lib.hid (polyDegree (fun _ => True) pr f rr wr HR.out (by omega))
    rw [← hdr] at HDR
    have HG1 := Lib.hid (HG.out.below HBL.out)
    clear hdr
    obtain ⟨d2, hd2⟩ : ∃ d2, d2 = 2 * dr := ⟨_, rfl⟩
    have ed2 : (2 : Int) * (dr : Int) = (d2 : Int) := by omega
    by_cases hgo : M ≤ d2
    · have hgo1 : (M : Int) ≤ (d2 : Int) := by omega
      have hr0 : rr ≠ [0] := by intro e; rw [e] at hdr2; simp at hdr2; omega
      have hrt := tidy_top HV.out.tR HV.out.nR hr0
      have HR0 := Lib.hid hr0
      have hzf : (((nth rr 0 : Nat) : Int) == 0) = false := by simpa using hrt
      have HZ := Lib.hid (polyIsZero (fun _ => True) pr f rr false hzf wr HR.out (by omega))
      have HZR := Lib.hid (gfZero (fun _ => True) F f wr HG1.out)
      have HCo := Lib.hid (fun W hW => polyCoef (fun _ => True) pr f rr dr (dr : Int) rfl (nth rr 0) (by congr 1; omega) (by omega) W hW (by omega))
      have HINV := Lib.hid (fun W hW => gfInv (fun _ => True) F hF f (nth rr 0) (HV.out.eR 0) hrt W hW)
      obtain ⟨x0, hx0⟩ : ∃ x0, x0 = nth rr 0 := ⟨_, rfl⟩
      rw [← hx0] at HCo HINV
      obtain ⟨iv, hiv⟩ : ∃ iv, iv = inv F x0 := ⟨_, rfl⟩
      rw [← hiv] at HINV
      have HIV : Hid (iv = inv F (nth rr 0)) := Lib.hid (by rw [hiv, hx0])
      have HGO : Hid (2 * (rr.length - 1) ≥ M) := Lib.hid (by omega)
      clear hr0 hrt hzf hiv hx0 hd2
      go_wp2_with fail
      refine HDR.out.mono ?_
      rintro e w1 ⟨rfl, rfl⟩
      go_wp2_with fail
      refine HZ.out.mono ?_
      rintro e w1 ⟨rfl, rfl⟩
      go_wp2_with fail
      refine HZR.out.mono ?_
      rintro e w1 ⟨⟨z1, rfl, hz1⟩, rfl⟩
      have HZ1 := Lib.hid hz1
      clear hz1
      go_wp2_with fail
      refine HDR.out.mono ?_
      rintro e w1 ⟨rfl, rfl⟩
      go_wp2_with fail
      refine (HCo.out _ HR.out).mono ?_
      rintro e w1 ⟨rfl, n1, rfl⟩
      have HB1 := Lib.hid (below_drewN HBL.out n1)
      have HL1 := Lib.hid (HL.out.drewN n1)
      have HR1 := Lib.hid (HR.out.drewN n1)
      have HTL1 := Lib.hid (HTL.out.drewN n1)
      have HTT1 := Lib.hid (HTT.out.drewN n1)
      have HZ2 := Lib.hid (HZ1.out.drewN n1)
      have c1 : (wr.drewN n1).cell? ⟨D, 0, none⟩ = some (.pointer (some ⟨f, 0, none⟩)) := c0
      obtain ⟨W1, hW1⟩ : ∃ W1, W1 = wr.drewN n1 := ⟨_, rfl⟩
      rw [← hW1] at HB1 HL1 HR1 HTL1 HTT1 HZ2 c1 ⊢
      clear hW1 HL HR HTL HTT HZ1 HBL HG1 c0 HDR HZ HZR HCo
      go_wp2_with fail
      refine (HINV.out _ (HG.out.below HB1.out)).mono ?_
      rintro e w1 ⟨rfl, n2, rfl⟩
      have HB2 := Lib.hid (below_drewN HB1.out n2)
      have HL2 := Lib.hid (HL1.out.drewN n2)
      have HR2 := Lib.hid (HR1.out.drewN n2)
      have HTL2 := Lib.hid (HTL1.out.drewN n2)
      have HTT2 := Lib.hid (HTT1.out.drewN n2)
      have HZ3 := Lib.hid (HZ2.out.drewN n2)
      obtain ⟨W2, hW2⟩ : ∃ W2, W2 = W1.drewN n2 := ⟨_, rfl⟩
      rw [← hW2] at HB2 HL2 HR2 HTL2 HTT2 HZ3 ⊢
      have HV0 := Lib.hid (Dv.start hF (d := rr) HV.out.tL HV.out.nL HV.out.eL HV.out.eR)
      have HDST := Lib.hid (fun lq lr => Dv.step hF (p := rl) (q := lq) (r := lr) HV.out.tR HV.out.nR HV.out.eR HR0.out)
      clear hW2 HL1 HR1 HTL1 HTT1 HZ2 HB1 c1 HINV
      go_wp2_with fail
      go_loopg [12, 17] (rl.length + 1) (fun g2 u v wr2 => ∃ ps pq lq lr, u = .pointer (some ⟨ps, 0, none⟩) ∧ v = .pointer (some ⟨pq, 0, none⟩) ∧ Hid (PolyQ wr2 (fun _ => True) pq f lq) ∧ Hid (PolyQ wr2 (fun _ => True) ps f lr) ∧ Hid (Dv F rl rr lq lr) ∧
        Hid (PolyQ wr2 (fun _ => True) pr f rr) ∧ Hid (PolyQ wr2 (fun _ => True) ql f tl) ∧ Hid (PolyQ wr2 (fun _ => True) qt f tt) ∧ Hid (Below w.heap.size w wr2) ∧ Hid (lr = [0] ∨ lr.length + 1 ≤ g2))
      case atStart => exact ⟨pl, z1, [0], rl, rfl, rfl, HZ3, HL2, HV0, HR2, HTL2, HTT2, HB2, Lib.hid (.inr (Nat.le_refl _))⟩
      case round =>
        obtain ⟨ps, pq, lq, lr, rfl, rfl, HPQ, HPS, HDV, HPR, HQL, HQT, HB, HK2⟩ := hrel
        clear HZ3 HL2 HV0 HR2 HTL2 HTT2 HB2
        have hll := HDV.out.rl
        have hln := List.length_pos_iff.2 HDV.out.rn
        have c2 : wr.cell? ⟨D, 0, none⟩ = some (.pointer (some ⟨f, 0, none⟩)) := by
          have := (HB.out.cell (p := ⟨D, 0, none⟩) hDl).trans (HD.out.cell? 0)
          simpa using this
        obtain ⟨dl, hdl⟩ : ∃ dl, dl = lr.length - 1 := ⟨_, rfl⟩
        have hdl2 : dl + 1 = lr.length := by omega
        have HDL := Lib.hid (fun W hW => polyDegree (fun _ => True) ps f lr W hW (by omega))
        have HDP := Lib.hid (fun W hW => polyDegree (fun _ => True) pr f rr W hW (by omega))
        rw [← hdl] at HDL
        rw [show rr.length - 1 = dr by omega] at HDP
        clear hdl
        by_cases hge : dr ≤ dl
        · have hge1 : (dr : Int) ≤ (dl : Int) := by omega
          by_cases hz : lr = [0]
          · have hl1 : dl = 0 := by rw [hz] at hdl2; simp at hdl2; omega
            exfalso
            have := HGO.out
            omega
          · have hzt := tidy_top HDV.out.rt HDV.out.rn hz
            have HZR := Lib.hid (polyIsZero (fun _ => True) ps f lr false (by simpa using hzt) wr HPS.out (by omega))
            have HST := Lib.hid (HDST.out lq lr HDV.out (by omega) hz)
            have HKK := Lib.hid (show lr.length + 1 ≤ gk by rcases HK2.out with h | h; exact absurd h hz; exact h)
            have hgk : 2 ≤ gk := by have := HKK.out; omega
            clear hz HK2 hzt
            obtain ⟨kd, hkd⟩ : ∃ kd, kd = lr.length - rr.length := ⟨_, rfl⟩
            have ekd : (dl : Int) - (dr : Int) = (kd : Int) := by omega
            have hkd1 : kd < 10000 := by omega
            rw [← hkd] at HST
            clear hkd
            obtain ⟨sc, hsc⟩ : ∃ sc, sc = scale F rr lr := ⟨_, rfl⟩
            rw [← hsc] at HST
            have hscl : sc < F.size := by rw [hsc]; exact mul_lt hF (HDV.out.re 0)
            obtain ⟨y0, hy0⟩ : ∃ y0, y0 = nth lr 0 := ⟨_, rfl⟩
            have HSC : Hid (mul F y0 iv = sc) := Lib.hid (by rw [hsc, hy0, HIV.out]; rfl)
            have hy0l : y0 < F.size := by rw [hy0]; exact HDV.out.re 0
            have hivl : iv < F.size := by rw [HIV.out]; exact inv_lt hF _
            have HCR := Lib.hid (fun W hW => polyCoef (fun _ => True) ps f lr dl (dl : Int) rfl y0 (by rw [hy0]; congr 1; omega) (by omega) W hW (by omega))
            clear hsc hy0
            have HMU := Lib.hid (fun W hW => gfMul (fun _ => True) F hF f y0 iv hy0l hivl W hW)
            rw [HSC.out] at HMU
            go_wp2_with fail
            refine (HDL.out _ HPS.out).mono ?_
            rintro e w1 ⟨rfl, rfl⟩
            go_wp2_with fail
            refine (HDP.out _ HPR.out).mono ?_
            rintro e w1 ⟨rfl, rfl⟩
            go_wp2_with fail
            refine HZR.out.mono ?_
            rintro e w1 ⟨rfl, rfl⟩
            go_wp2_with fail
            refine (HDL.out _ HPS.out).mono ?_
            rintro e w1 ⟨rfl, rfl⟩
            go_wp2_with fail
            refine (HDP.out _ HPR.out).mono ?_
            rintro e w1 ⟨rfl, rfl⟩
            go_wp2_with fail
            go_quiet ((first | (go_at_call 107; exact quietL (HDL.out _ (HPS.out.drewN _))) | (go_at_call 105; exact quietN (HCR.out _ (HPS.out.drewN _))) | (go_at_call 106; exact quietN (HMU.out _ ((HG.out.below HB.out).drewN _)))))
            have HBa := Lib.hid (below_drewN HB.out nq)
            have HPRa := Lib.hid (HPR.out.drewN nq)
            have HPQa := Lib.hid (HPQ.out.drewN nq)
            have HPSa := Lib.hid (HPS.out.drewN nq)
            have HQLa := Lib.hid (HQL.out.drewN nq)
            have HQTa := Lib.hid (HQT.out.drewN nq)
            have ca : (wr.drewN nq).cell? ⟨D, 0, none⟩ = some (.pointer (some ⟨f, 0, none⟩)) := c2
            obtain ⟨W3, hW3⟩ : ∃ W3, W3 = wr.drewN nq := ⟨_, rfl⟩
            rw [← hW3] at HBa HPRa HPQa HPSa HQLa HQTa ca ⊢
            clear hW3 HPR HPQ HPS HQL HQT HB HZR HDL HDP HCR HMU HSC hy0l hivl c2
            have HM2 := Lib.hid (gfMono (fun _ => True) F hF f kd sc (kd : Int) rfl (by omega) hscl W3 (fun _ _ => trivial) (HG.out.below HBa.out))
            go_wp2_with fail
            refine HM2.out.mono ?_
            rintro e W4 ⟨pm, rfl, hpm, hb4⟩
            have HBb := Lib.hid (HBa.out.trans (hb4.mono HBa.out.size))
            have HPRb := Lib.hid (HPRa.out.below hb4)
            have HPSb := Lib.hid (HPSa.out.below hb4)
            have HQLb := Lib.hid (HQLa.out.below hb4)
            have HQTb := Lib.hid (HQTa.out.below hb4)
            have hlq := HDV.out.ql
            have hml := monL_length kd sc
            have HAD := Lib.hid (polyAdd (fun _ => True) pq pm f lq (monL kd sc) (by omega) (by omega) (fun j => by have := HDV.out.qe j; omega) (fun j => by have := monL_el hF kd hscl j; omega) HDV.out.qt (monL_tidy _ _) W4 (fun _ _ => trivial) (HPQa.out.below hb4) hpm)
            clear hpm hb4 HBa HPRa HPQa HPSa HQLa HQTa HM2 ca hlq hml
            go_wp2_with fail
            refine HAD.out.mono ?_
            rintro e W5 ⟨pq', rfl, hpq, hb5⟩
            have HBc := Lib.hid (HBb.out.trans (hb5.mono HBb.out.size))
            have HPRc := Lib.hid (HPRb.out.below hb5)
            have HPSc := Lib.hid (HPSb.out.below hb5)
            have HQLc := Lib.hid (HQLb.out.below hb5)
            have HQTc := Lib.hid (HQTb.out.below hb5)
            have HPQc := Lib.hid hpq
            have HM1 := Lib.hid (polyMono F hF pr f kd sc rr (kd : Int) rfl (by omega) hscl HV.out.eR (by omega) W5 HPRc.out (HG.out.below HBc.out))
            clear hpq hb5 HBb HPRb HPSb HQLb HQTb HAD
            go_wp2_with fail
            refine HM1.out.mono ?_
            rintro e W6 ⟨pt, rfl, hpt, hb6⟩
            have HBd := Lib.hid (HBc.out.trans (hb6.mono HBc.out.size))
            have HPRd := Lib.hid (HPRc.out.below hb6)
            have HPQd := Lib.hid (HPQc.out.below hb6)
            have HQLd := Lib.hid (HQLc.out.below hb6)
            have HQTd := Lib.hid (HQTc.out.below hb6)
            have hsl := shfL_length F HV.out.nR kd sc
            have HAR := Lib.hid (polyAdd (fun _ => True) ps pt f lr (shfL F rr kd sc) (by omega) (by omega) (fun j => by have := HDV.out.re j; omega) (fun j => by have := shfL_el hF HV.out.eR kd sc j; omega) HDV.out.rt (shfL_tidy _ _ _ _) W6 (fun _ _ => trivial) (HPSc.out.below hb6) hpt)
            clear hpt hb6 HBc HPRc HPSc HQLc HQTc HPQc HM1 hsl
            go_wp2_with fail
            refine HAR.out.mono ?_
            rintro e W7 ⟨ps', rfl, hps, hb7⟩
            have HBe := Lib.hid (HBd.out.trans (hb7.mono HBd.out.size))
            have HPRe := Lib.hid (HPRd.out.below hb7)
            have HPQe := Lib.hid (HPQd.out.below hb7)
            have HQLe := Lib.hid (HQLd.out.below hb7)
            have HQTe := Lib.hid (HQTd.out.below hb7)
            have HPSe := Lib.hid hps
            obtain ⟨lq', hlq'⟩ : ∃ lq', lq' = plus lq (monL kd sc) := ⟨_, rfl⟩
            obtain ⟨lr', hlr'⟩ : ∃ lr', lr' = plus lr (shfL F rr kd sc) := ⟨_, rfl⟩
            rw [← hlq', ← hlr'] at HST
            rw [← hlq'] at HPQe
            rw [← hlr'] at HPSe
            clear hps hb7 HBd HPRd HPQd HQLd HQTd HAR hlq' hlr'
            go_wp2_with fail
            go_roundg (gk - 1)
            case measure => omega
            case rel => exact ⟨ps', pq', lq', lr', rfl, rfl, HPQe, HPSe, Lib.hid HST.out.1, HPRe, HQLe, HQTe, HBe, Lib.hid (by have := HKK.out; rcases HST.out.2 with h | h; exact .inr (by omega); exact .inl h)⟩
        · have hge1 : ¬ ((dr : Nat) : Int) ≤ ((dl : Nat) : Int) := by omega
          have hge2 : decide (((dr : Nat) : Int) ≤ ((dl : Nat) : Int)) = false := by simp; omega
          have hlr2 : lr.length < rr.length ∨ lr = [0] := .inl (by omega)
          have HNX := Lib.hid (HV.out.next HGO.out hM HDV.out hlr2)
          have hqql := HDV.out.ql
          have HMUL := Lib.hid (fun W hW1 hW2 hW3 => polyMul (fun _ => True) F hF pq qt f lq tt (by omega) (by omega) HDV.out.qe HV.out.eU HDV.out.qt HV.out.tU W (fun _ _ => trivial) hW1 hW2 hW3)
          have hprl := prod_length F lq tt
          have HADD := Lib.hid (fun W p hW1 hW2 => polyAdd (fun _ => True) p ql f (prod F lq tt) tl (by omega) (by omega) (fun j => by have := prod_el hF HDV.out.qe HV.out.eU j; omega) (fun j => by have := HV.out.eT j; omega) (prod_tidy F _ _) HV.out.tT W (fun _ _ => trivial) hW1 hW2)
          obtain ⟨nt, hnt⟩ : ∃ nt, nt = plus (prod F lq tt) tl := ⟨_, rfl⟩
          obtain ⟨mp, hmp⟩ : ∃ mp, mp = prod F lq tt := ⟨_, rfl⟩
          rw [← hmp] at HMUL HADD hnt
          rw [← hmp] at HNX
          rw [← hnt] at HNX HADD
          clear hnt hmp hprl hqql
          go_wp2_with fail
          refine (HDL.out _ HPS.out).mono ?_
          rintro e w1 ⟨rfl, rfl⟩
          go_wp2_with fail
          refine (HDP.out _ HPR.out).mono ?_
          rintro e w1 ⟨rfl, rfl⟩
          go_wp2_with fail
          refine (HMUL.out _ HPQ.out HQT.out (HG.out.below HB.out)).mono ?_
          rintro e W4 ⟨pm, rfl, hpm, hb4⟩
          have HBb := Lib.hid (HB.out.trans (hb4.mono HB.out.size))
          have HPRb := Lib.hid (HPR.out.below hb4)
          have HPSb := Lib.hid (HPS.out.below hb4)
          have HQTb := Lib.hid (HQT.out.below hb4)
          have HAD := Lib.hid (HADD.out W4 pm hpm (HQL.out.below hb4))
          clear hpm hb4 HB HPR HPQ HPS HQL HQT HMUL HADD c2
          go_wp2_with fail
          refine HAD.out.mono ?_
          rintro e W5 ⟨pt, rfl, hpt, hb5⟩
          have HBc := Lib.hid (HBb.out.trans (hb5.mono HBb.out.size))
          have HPRc := Lib.hid (HPRb.out.below hb5)
          have HPSc := Lib.hid (HPSb.out.below hb5)
          have HQTc := Lib.hid (HQTb.out.below hb5)
          have HPTc := Lib.hid hpt
          clear hpt hb5 HBb HPRb HPSb HQTb HAD
          go_wp2_with fail
          refine (HDL.out _ HPSc.out).mono ?_
          rintro e w1 ⟨rfl, rfl⟩
          go_wp2_with fail
          refine (HDP.out _ HPRc.out).mono ?_
          rintro e w1 ⟨rfl, rfl⟩
          have hle : Hid (lr.length ≤ rr.length - 1) := Lib.hid (by omega)
          clear HDL HDP
          go_wp2_with fail
          go_roundg (rr.length - 1)
          case measure => have := HK.out; omega
          case rel => exact ⟨pr, ps, qt, pt, rr, lr, tt, nt, rfl, rfl, rfl, rfl, HPRc, HPSc, HQTc, HPTc, HNX, HBc, hle⟩
    · have hgo1 : ((M : Int) ≤ (d2 : Int)) = False := by simp; omega
      obtain ⟨k, hkl, hk0, hkt, hkr⟩ := HEND.out rl rr tl tt HV.out (by omega)
      have htp := List.length_pos_iff.2 HV.out.nU
      have hck : nth tt (tt.length - 1 - 0) = k := by
        have e1 : co tt 0 = nth tt (tt.length - 1 - 0) := by unfold co; rw [if_pos htp]
        rw [← e1, hkt 0, HS0.out, one_mul hF hkl]
      have HCo := Lib.hid (polyCoef (fun _ => True) qt f tt 0 0 rfl k hck htp wr HTT.out (by omega))
      have hil := inv_lt hF k
      have hi0 := inv_pos hF hkl hk0
      have HINV := Lib.hid (fun W hW => gfInv (fun _ => True) F hF f k hkl hk0 W hW)
      have hkz : ((k : Int) == 0) = false := by simpa using hk0
      have htl3 := shfL_length F HV.out.nU 0 (inv F k)
      have hrl3 := shfL_length F HV.out.nR 0 (inv F k)
      have HT1 := Lib.hid (shfL_tidy F tt 0 (inv F k))
      have HT2 := Lib.hid (shfL_tidy F rr 0 (inv F k))
      have HE1 := Lib.hid (shfL_el hF HV.out.eU 0 (inv F k))
      have HE2 := Lib.hid (shfL_el hF HV.out.eR 0 (inv F k))
      have HC1 : Hid (∀ n, co (shfL F tt 0 (inv F k)) n = si n) := Lib.hid (fun n => by rw [co_by hF HV.out.eU, hkt n, mul_assoc hF (HSI.out n) hkl hil, mul_inv hF hkl hk0, mul_one hF (HSI.out n)])
      have HC2 : Hid (∀ n, co (shfL F rr 0 (inv F k)) n = om n) := Lib.hid (fun n => by rw [co_by hF HV.out.eR, hkr n, mul_assoc hF (HOM.out n) hkl hil, mul_inv hF hkl hk0, mul_one hF (HOM.out n)])
      have HBY1 := Lib.hid (fun W hW hG => polyBy (fun _ => True) F hF qt f (inv F k) tt hil hi0 HV.out.eU HV.out.tU (by omega) W (fun _ _ => trivial) hW hG)
      have HBY2 := Lib.hid (fun W hW hG => polyBy (fun _ => True) F hF pr f (inv F k) rr hil hi0 HV.out.eR HV.out.tR (by omega) W (fun _ _ => trivial) hW hG)
      obtain ⟨iv, hiv⟩ : ∃ iv, iv = inv F k := ⟨_, rfl⟩
      rw [← hiv] at HINV HBY1 HBY2 HT1 HT2 HE1 HE2 HC1 HC2 htl3 hrl3
      obtain ⟨l1, hl1⟩ : ∃ l1, l1 = shfL F tt 0 iv := ⟨_, rfl⟩
      obtain ⟨l2, hl2⟩ : ∃ l2, l2 = shfL F rr 0 iv := ⟨_, rfl⟩
      rw [← hl1] at HBY1 HT1 HE1 HC1 htl3
      rw [← hl2] at HBY2 HT2 HE2 HC2 hrl3
      clear hkt hkr hck hk0 hil hi0 hiv hl1 hl2 hd2 hgo
      go_wp2_with fail
      refine HDR.out.mono ?_
      rintro e w1 ⟨rfl, rfl⟩
      go_wp2_with fail
      refine HCo.out.mono ?_
      rintro e w1 ⟨rfl, n1, rfl⟩
      have HB1 := Lib.hid (below_drewN HBL.out n1)
      have HR1 := Lib.hid (HR.out.drewN n1)
      have HTT1 := Lib.hid (HTT.out.drewN n1)
      have c1 : (wr.drewN n1).cell? ⟨D, 0, none⟩ = some (.pointer (some ⟨f, 0, none⟩)) := c0
      obtain ⟨W1, hW1⟩ : ∃ W1, W1 = wr.drewN n1 := ⟨_, rfl⟩
      rw [← hW1] at HB1 HR1 HTT1 c1 ⊢
      clear hW1 HL HR HTL HTT HBL HG1 c0 HDR HCo
      go_wp2_with fail
      refine (HINV.out _ (HG.out.below HB1.out)).mono ?_
      rintro e w1 ⟨rfl, n2, rfl⟩
      have HB2 := Lib.hid (below_drewN HB1.out n2)
      have HR2 := Lib.hid (HR1.out.drewN n2)
      have HTT2 := Lib.hid (HTT1.out.drewN n2)
      obtain ⟨W2, hW2⟩ : ∃ W2, W2 = W1.drewN n2 := ⟨_, rfl⟩
      rw [← hW2] at HB2 HR2 HTT2 ⊢
      clear hW2 HR1 HTT1 HB1 c1 HINV
      go_wp2_with fail
      refine (HBY1.out W2 HTT2.out (HG.out.below HB2.out)).mono ?_
      rintro e W3 ⟨q1, rfl, hq1, hb3⟩
      have HB3 := Lib.hid (HB2.out.trans (hb3.mono HB2.out.size))
      have HQ1 := Lib.hid hq1
      have HR3 := Lib.hid (HR2.out.below hb3)
      clear hq1 hb3 HB2 HR2 HTT2 HBY1
      go_wp2_with fail
      refine (HBY2.out W3 HR3.out (HG.out.below HB3.out)).mono ?_
      rintro e W4 ⟨q2, rfl, hq2, hb4⟩
      have HB4 := Lib.hid (HB3.out.trans (hb4.mono HB3.out.size))
      have HQ2 := Lib.hid hq2
      have HQ3 := Lib.hid (HQ1.out.below hb4)
      clear hq2 hb4 HB3 HQ1 HR3 HBY2
      go_wp2_with fail
      go_ret3
      exact ⟨q1, q2, l1, l2, rfl, HQ3.out, HQ2.out, HB4.out, HT1.out, HE1.out, HC1.out, HT2.out, HE2.out, HC2.out, by omega, by omega⟩
end Go.Proofs.YtiielblnmfeapaaGreatDoor
