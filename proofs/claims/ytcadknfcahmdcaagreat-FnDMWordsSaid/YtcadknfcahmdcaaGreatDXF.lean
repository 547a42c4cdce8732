/-
  edifactHandleEOD with the unlatch alone, walked (printed in part by genDXE.py). No condition beyond the bounds that each theorem states.
-/
import Derived.Test.YtcadknfcahmdcaaGreatDXE
namespace Go.Proofs.YtcadknfcahmdcaaGreat
open Go.RowKit Go.Qz Go.Qz.DF
open Go.Qz.DV hiding val run part
set_option linter.unusedVariables false

/-- New words beside a context. -/
theorem newBuf {w w' : World} {p : Nat} {K : CK} {ws : List Nat} {pos : Nat} {enc : Int} {sy : Option (Nat × Nat)} {v u : Value} {l : List Nat} (h : Ctx w p K ws pos enc sy v) (hs : Same w w') (ho : Off w' w.heap.size 5 u l.length (bys l)) : Buf w' K v w.heap.size u l := by
  obtain ⟨g, off, cap, rfl, hob, hlt, hbg, _⟩ := ho.block
  refine ⟨ho, ?_, ?_, Mod.size (S := fun _ => False) hs⟩
  · obtain ⟨g2, off2, cap2, e2, hob2, hlt2, _⟩ := h.cw.block
    rw [hob, hob2]; intro e; have e3 : g = g2 := Option.some.inj e; omega
  · obtain ⟨g2, off2, cap2, e2, hob2, hlt2, _⟩ := h.ms.block
    injection e2 with e2
    injection e2 with e2
    injection e2 with e2
    rw [hob]; intro e; have e3 : g = K.mb := Option.some.inj e; omega
set_option maxRecDepth 100000 in
set_option maxHeartbeats 6400000 in
theorem ediEOD0 {p : Nat} {K : CK} {ws : List Nat} {q cap base : Nat} {enc : Int} {sy : Option (Nat × Nat)} {v v0 : Value} (w0 w : World) (h : Ctx w p K ws q enc sy v) (hs : Step p v0 v w0 w) (T R : Nat) (hT : T + K.skip = K.msg.length) (hlen : K.msg.length ≤ 1000) (hR : R + q = T) (hsh : K.sh ≤ 2) (g off : Nat) (hbuf : Buf w K v base (.slice (some ⟨g, off, none⟩) 1 cap) [31]) (hw : ws.length + 1 ≤ capMost K.sh) (hsy : SyOk K.sh ws.length sy) :
    Calls Tryz.prog 150 #[.pointer (some ⟨p, 0, none⟩), .slice (some ⟨g, off, none⟩) 1 cap] w (EdEod p K ws v0 w0 fun U pos' L' => pos' = q ∧ (L' ≤ ws.length + 1 ∧ (R = 0 → L' ≤ ws.length)) ∧ ((U = [] ∧ R ≤ DV.ediRoom K.sh ws.length R ∧ DV.ediRoom K.sh ws.length R ≤ 2) ∨ (U = [124] ∧ ¬ (R ≤ DV.ediRoom K.sh ws.length R ∧ DV.ediRoom K.sh ws.length R ≤ 2)))) := by
  have hm := cap_le_most K.sh
  have hcm : capMost K.sh ≤ 1304 := by unfold capMost; split <;> omega
  have hcap := (capFor_mem hsh (show ws.length ≤ mostOf K.sh by omega)).2
  have hcapl := capFor_le hsh (show ws.length ≤ mostOf K.sh by omega)
  have hcap1 := (capFor_mem hsh (show ws.length + 1 ≤ mostOf K.sh by omega)).2
  have hcapl1 := capFor_le hsh (show ws.length + 1 ≤ mostOf K.sh by omega)
  have hmo : mostOf K.sh ≤ 1558 := by unfold mostOf; split <;> omega
  obtain ⟨W, hW⟩ : ∃ W, W = ws.length := ⟨_, rfl⟩
  obtain ⟨d0, hd0⟩ : ∃ d, d = capFor K.sh ws.length := ⟨_, rfl⟩
  obtain ⟨d1, hd1⟩ : ∃ d, d = capFor K.sh (ws.length + 1) := ⟨_, rfl⟩
  obtain ⟨a0, ha0⟩ : ∃ a, W + a = d0 := ⟨d0 - W, by omega⟩
  obtain ⟨a1, ha1⟩ : ∃ a, W + a = d1 := ⟨d1 - W, by omega⟩
  have hroom : DV.ediRoom K.sh ws.length R = if a0 < R then a1 else a0 := by
    unfold DV.ediRoom; rw [← hd0, ← hd1, ← hW, show d0 - W = a0 by omega, show d1 - W = a1 by omega]
  have HU := Lib.hid (upd w h hsh (by omega))
  rw [hsy.upd (Nat.le_refl _), ← hd0] at HU
  have q0 : IntKind.i64.wrap ((d0 : Int) - (W : Int)) = (a0 : Int) := by rw [IntKind.wrap_i64]; omega
  have q1 : IntKind.i64.wrap ((d1 : Int) - (W : Int)) = (a1 : Int) := by rw [IntKind.wrap_i64]; omega
  obtain ⟨W1, hW1⟩ : ∃ W1, W1 = W + 1 := ⟨_, rfl⟩
  have q2 : IntKind.i64.wrap ((W : Int) + 1) = (W1 : Int) := by rw [IntKind.wrap_i64]; omega
  have q3 : IntKind.i64.wrap ((W : Int) + 0) = (W : Int) := by rw [IntKind.wrap_i64]; omega
  have HROOM := Lib.hid hroom
  have HSTEP := Lib.hid hs
  have HWL := Lib.hid hW
  have HTT := Lib.hid hT
  have HRT := Lib.hid hR
  have HLEN := Lib.hid hlen
  have HB := Lib.hid hbuf
  have HCTX := Lib.hid h
  have HD : Hid (W1 = W + 1 ∧ W + a0 = d0 ∧ W + a1 = d1 ∧ d0 = capFor K.sh W ∧ d1 = capFor K.sh (W + 1) ∧ d1 ≤ 1558 ∧ W + 1 ≤ capMost K.sh ∧ K.sh ≤ 2 ∧ W + 1 ≤ d1) := Lib.hid ⟨hW1, ha0, ha1, by rw [hW]; exact hd0, by rw [hW]; exact hd1, by omega, by omega, hsh, by omega⟩
  have hRb : R ≤ 1000 := by omega
  have ha0b : a0 ≤ 2000 := by omega
  have ha1b : a1 ≤ 2000 := by omega
  clear h hs hT hlen hR hsh hbuf hw hsy hm hcm hcap hcapl hcap1 hcapl1 hmo hW hd0 hd1 ha0 ha1 hroom hW1
  go_enter_defers Tryz.func150, Tryz.ntmps150
  go_wp2_with fail
  refine HU.out.mono ?_
  rintro e w1 ⟨sq, rfl, HC1, HSu⟩
  have HS1 : Hid (Step p v0 v w0 w1) := Lib.hid (HSTEP.out.trans HSu.out)
  have HB1 := Lib.hid (HB.out.step HCTX.out HSu.out)
  have HGS := Lib.hid (getSym w1 sq d0 HC1.out)
  have HGP := Lib.hid (getCap w1 sq d0 HC1.out)
  have HGN := Lib.hid (getCount w1 HC1.out)
  rw [← HWL.out] at HGN
  have HGR := Lib.hid (getRemain w1 HC1.out T R HTT.out (by have := HLEN.out; omega) HRT.out)
  clear HSTEP HU HSu HB HCTX
  go_wp2_with fail
  refine HGS.out.mono ?_
  rintro e w' ⟨rfl, rfl⟩
  go_wp2_with fail
  refine HGP.out.mono ?_
  rintro e w' ⟨rfl, rfl⟩
  go_wp2_with fail
  refine HGN.out.mono ?_
  rintro e w' ⟨rfl, rfl⟩
  go_wp2_with fail
  refine HGR.out.mono ?_
  rintro e w' ⟨rfl, mq, rfl⟩
  have HC2 := Lib.hid (HC1.out.same (Same.drewN w1 mq))
  have HS2 : Hid (Step p v0 v w0 (w1.drewN mq)) := Lib.hid (HS1.out.trans (Step.of_same (Same.drewN w1 mq)))
  have HB2 := Lib.hid (HB1.out.same (Same.drewN w1 mq))
  obtain ⟨w2, hw2⟩ : ∃ wz, wz = w1.drewN mq := ⟨_, rfl⟩
  rw [← hw2] at HC2 HS2 HB2 ⊢
  clear hw2 HC1 HS1 HB1 HGS HGP HGN HGR
  have HQ3 : Hid (wrap64 (W : Int) = (W : Int)) := Lib.hid (by have := q3; rw [Int.add_zero, IntKind.wrap_i64] at this; unfold wrap64; exact this)
  have HCMB : Hid (capMost K.sh ≤ 1304) := Lib.hid (by unfold capMost; split <;> omega)
  by_cases hlt : a0 < R
  · have hi : ((a0 : Int) < (R : Int)) = True := by simp; omega
    have HHI := Lib.hid hlt
    have HUB := Lib.hid (updBy w2 HC2.out W1 HD.out.2.2.2.2.2.2.2.1 (by have := HD.out; omega))
    have hdd : updS K.sh W1 (some (sq, d0)) = d1 := by
      have hD := HD.out
      rcases Nat.lt_or_ge d0 W1 with h | h
      · rw [updS_lt h, hD.1]; exact hD.2.2.2.2.1.symm
      · rw [updS_ge (by omega), hD.2.2.2.1, hD.2.2.2.2.1]; exact (capFor_stay (by omega) (by omega)).symm
    rw [hdd] at HUB
    have HGN := Lib.hid (getCount w2 HC2.out)
    rw [← HWL.out] at HGN
    clear hlt hdd
    go_wp2_with fail
    refine HGN.out.mono ?_
    rintro e w' ⟨rfl, rfl⟩
    go_wp2_with fail
    refine HUB.out.mono ?_
    rintro e w3 ⟨sq3, rfl, HC3, HSu⟩
    have HS3 : Hid (Step p v0 v w0 w3) := Lib.hid (HS2.out.trans HSu.out)
    have HB3 := Lib.hid (HB2.out.step HC2.out HSu.out)
    have HGS := Lib.hid (getSym w3 sq3 d1 HC3.out)
    have HGP := Lib.hid (getCap w3 sq3 d1 HC3.out)
    have HGM := Lib.hid (getCount w3 HC3.out)
    rw [← HWL.out] at HGM
    clear HC2 HS2 HB2 HUB HGN HSu
    go_wp2_with fail
    refine HGS.out.mono ?_
    rintro e w' ⟨rfl, rfl⟩
    go_wp2_with fail
    refine HGP.out.mono ?_
    rintro e w' ⟨rfl, rfl⟩
    go_wp2_with fail
    refine HGM.out.mono ?_
    rintro e w' ⟨rfl, rfl⟩
    obtain ⟨LL, hLL⟩ : ∃ LL, LL = ws.length + 1 := ⟨_, rfl⟩
    have HSYF : Hid (∀ s, SyOk K.sh LL (some (s, d1))) := Lib.hid fun s => .inr ⟨s, W + 1, by rw [HD.out.2.2.2.2.1], by rw [hLL, HWL.out]; exact Nat.le_refl _⟩
    have HLL : Hid (LL ≤ ws.length + 1 ∧ (R = 0 → LL ≤ ws.length)) := Lib.hid ⟨by omega, fun e => by have := HHI.out; omega⟩
    clear hLL
    clear HGS HGP HGM
    by_cases hra : R ≤ a1
    · have t1 : ((R : Int) ≤ (a1 : Int)) = True := by simp; omega
      by_cases ha2 : a1 ≤ 2
      · have t2 : ((a1 : Int) ≤ 2) = True := by simp; omega
        have HBR : Hid (R ≤ a1 ∧ a1 ≤ 2) := Lib.hid ⟨hra, ha2⟩
        clear hra ha2
        go_wp2_with fail
        refine leaves_cons (f := 106) (args := #[.pointer (some ⟨p, 0, none⟩), .int .i64 0]) (by simp) (by simp [go_sem]) ?_
        refine (signalD w3 HC3.out 0 .returning).mono ?_
        rintro e u' wz ⟨rfl, vz, rfl, HCz, HSz⟩
        exact ⟨_, results_tmp rfl _ _ _, vz, [], q, LL, _, rfl, by rw [List.append_nil]; exact HCz, Lib.hid (HS3.out.trans HSz.out), HSYF.out _, rfl, HLL.out, .inl ⟨rfl, by rw [HROOM.out]; have := HHI.out; have := HBR.out; split <;> omega, by rw [HROOM.out]; have := HHI.out; have := HBR.out; split <;> omega⟩⟩
      · have t2 : ((a1 : Int) ≤ 2) = False := by simp; omega
        have t3 : (3 : Int) ≤ (a1 : Int) := by omega
        have HBR : Hid (R ≤ a1 ∧ ¬ a1 ≤ 2) := Lib.hid ⟨hra, ha2⟩
        clear hra ha2
        have HWX := Lib.hid (ediWords1 31 (by omega) g off cap w3 (HB3.out.off.cells 0 _ rfl))
        clear HB3
        go_wp2_with fail
        refine HWX.out.mono ?_
        rintro e w4 ⟨u, rfl, HO4, HL4⟩
        have HS4 : Hid (Step p v0 v w0 w4) := Lib.hid (HS3.out.trans (Step.of_same (Same.of_below HL4.out)))
        have HC4 := Lib.hid (HC3.out.same (Same.of_below HL4.out))
        have HN4 := Lib.hid (newBuf HC3.out (Same.of_below HL4.out) HO4.out)
        have HHM := Lib.hid (hasMore w4 HC4.out T HTT.out (by have := HLEN.out; omega))
        obtain ⟨hmv, hhmv⟩ : ∃ b, b = decide (q < T) := ⟨_, rfl⟩
        rw [← hhmv] at HHM
        clear hhmv
        obtain ⟨gu, ou, cu, hue⟩ := HN4.out.val
        have hue' : u = .slice (some ⟨gu, ou, none⟩) 1 cu := hue
        clear hue
        subst hue'
        clear HWX HL4 HC3 HS3 HO4
        go_wp2_with fail
        refine HHM.out.mono ?_
        rintro e w' ⟨rfl, mr, rfl⟩
        have HS5 : Hid (Step p v0 v w0 (w4.drewN mr)) := Lib.hid (HS4.out.trans (Step.of_same (Same.drewN w4 mr)))
        have HC5 := Lib.hid (HC4.out.same (Same.drewN w4 mr))
        have HN5 := Lib.hid (HN4.out.same (Same.drewN w4 mr))
        obtain ⟨w5, hw5⟩ : ∃ wz, wz = w4.drewN mr := ⟨_, rfl⟩
        rw [← hw5] at HS5 HC5 HN5 ⊢
        have HGN := Lib.hid (getCount w5 HC5.out)
        rw [← HWL.out] at HGN
        have HUB := Lib.hid (updBy w5 HC5.out W HD.out.2.2.2.2.2.2.2.1 (by have := HD.out; omega))
        rw [updS_ge (by have := HD.out; omega)] at HUB
        clear hw5 HHM HS4 HC4 HN4
        cases hmv
        · skip
          go_wp2_with fail
          refine HGN.out.mono ?_
          rintro e w' ⟨rfl, rfl⟩
          go_wp2_with fail
          rw [HQ3.out]
          refine HUB.out.mono ?_
          rintro e w6 ⟨sq6, rfl, HC6, HSu⟩
          have HS6 : Hid (Step p v0 v w0 w6) := Lib.hid (HS5.out.trans HSu.out)
          have HN6 := Lib.hid (HN5.out.step HC5.out HSu.out)
          have HGS := Lib.hid (getSym w6 sq6 d1 HC6.out)
          have HGP := Lib.hid (getCap w6 sq6 d1 HC6.out)
          have HGM := Lib.hid (getCount w6 HC6.out)
          rw [← HWL.out] at HGM
          clear HGN HUB HSu HC5 HS5 HN5
          go_wp2_with fail
          refine HGS.out.mono ?_
          rintro e w' ⟨rfl, rfl⟩
          go_wp2_with fail
          refine HGP.out.mono ?_
          rintro e w' ⟨rfl, rfl⟩
          go_wp2_with fail
          refine HGM.out.mono ?_
          rintro e w' ⟨rfl, rfl⟩
          clear HGS HGP
          have HUB := Lib.hid (updBy w6 HC6.out W1 HD.out.2.2.2.2.2.2.2.1 (by have := HD.out; omega))
          rw [updS_ge (by have := HD.out; have := HBR.out; omega)] at HUB
          go_wp2_with fail
          refine HGM.out.mono ?_
          rintro e w' ⟨rfl, rfl⟩
          go_wp2_with fail
          refine HUB.out.mono ?_
          rintro e w7 ⟨sq7, rfl, HC7, HSu⟩
          have HS7 : Hid (Step p v0 v w0 w7) := Lib.hid (HS6.out.trans HSu.out)
          have HN7 := Lib.hid (HN6.out.step HC6.out HSu.out)
          clear HGM HUB HSu HC6 HS6 HN6
          have HWW := Lib.hid (writeWords w7 HC7.out [124] gu ou cu HN7.out.off.cells (by have := HD.out; have := HWL.out; have := HCMB.out; show ws.length + 1 < 100000; omega))
          go_wp2_with fail
          refine HWW.out.mono ?_
          rintro e w9 ⟨v9, rfl, HC9, HSW⟩
          have HS9 : Hid (Step p v0 v9 w0 w9) := Lib.hid (HS7.out.trans HSW.out)
          clear HSW HWW
          go_wp2_with fail
          refine leaves_cons (f := 106) (args := #[.pointer (some ⟨p, 0, none⟩), .int .i64 0]) (by simp) (by simp [go_sem]) ?_
          refine (signalD w9 HC9.out 0 .returning).mono ?_
          rintro e u' wz ⟨rfl, vz, rfl, HCz, HSz⟩
          exact ⟨_, results_tmp rfl _ _ _, vz, [124], q, LL, _, rfl, HCz, Lib.hid (HS9.out.trans HSz.out), HSYF.out _, rfl, HLL.out, .inr ⟨rfl, by rw [HROOM.out]; have := HHI.out; have := HBR.out; split <;> omega⟩⟩
        · skip
          go_wp2_with fail
          refine HGN.out.mono ?_
          rintro e w' ⟨rfl, rfl⟩
          go_wp2_with fail
          rw [HQ3.out]
          refine HUB.out.mono ?_
          rintro e w6 ⟨sq6, rfl, HC6, HSu⟩
          have HS6 : Hid (Step p v0 v w0 w6) := Lib.hid (HS5.out.trans HSu.out)
          have HN6 := Lib.hid (HN5.out.step HC5.out HSu.out)
          have HGS := Lib.hid (getSym w6 sq6 d1 HC6.out)
          have HGP := Lib.hid (getCap w6 sq6 d1 HC6.out)
          have HGM := Lib.hid (getCount w6 HC6.out)
          rw [← HWL.out] at HGM
          clear HGN HUB HSu HC5 HS5 HN5
          go_wp2_with fail
          refine HGS.out.mono ?_
          rintro e w' ⟨rfl, rfl⟩
          go_wp2_with fail
          refine HGP.out.mono ?_
          rintro e w' ⟨rfl, rfl⟩
          go_wp2_with fail
          refine HGM.out.mono ?_
          rintro e w' ⟨rfl, rfl⟩
          clear HGS HGP
          have HUB := Lib.hid (updBy w6 HC6.out W1 HD.out.2.2.2.2.2.2.2.1 (by have := HD.out; omega))
          rw [updS_ge (by have := HD.out; have := HBR.out; omega)] at HUB
          go_wp2_with fail
          refine HGM.out.mono ?_
          rintro e w' ⟨rfl, rfl⟩
          go_wp2_with fail
          refine HUB.out.mono ?_
          rintro e w7 ⟨sq7, rfl, HC7, HSu⟩
          have HS7 : Hid (Step p v0 v w0 w7) := Lib.hid (HS6.out.trans HSu.out)
          have HN7 := Lib.hid (HN6.out.step HC6.out HSu.out)
          clear HGM HUB HSu HC6 HS6 HN6
          have HWW := Lib.hid (writeWords w7 HC7.out [124] gu ou cu HN7.out.off.cells (by have := HD.out; have := HWL.out; have := HCMB.out; show ws.length + 1 < 100000; omega))
          go_wp2_with fail
          refine HWW.out.mono ?_
          rintro e w9 ⟨v9, rfl, HC9, HSW⟩
          have HS9 : Hid (Step p v0 v9 w0 w9) := Lib.hid (HS7.out.trans HSW.out)
          clear HSW HWW
          go_wp2_with fail
          refine leaves_cons (f := 106) (args := #[.pointer (some ⟨p, 0, none⟩), .int .i64 0]) (by simp) (by simp [go_sem]) ?_
          refine (signalD w9 HC9.out 0 .returning).mono ?_
          rintro e u' wz ⟨rfl, vz, rfl, HCz, HSz⟩
          exact ⟨_, results_tmp rfl _ _ _, vz, [124], q, LL, _, rfl, HCz, Lib.hid (HS9.out.trans HSz.out), HSYF.out _, rfl, HLL.out, .inr ⟨rfl, by rw [HROOM.out]; have := HHI.out; have := HBR.out; split <;> omega⟩⟩
    · have t1 : ((R : Int) ≤ (a1 : Int)) = False := by simp; omega
      by_cases ha2 : a1 ≤ 2
      · have t3 : ((3 : Int) ≤ (a1 : Int)) = False := by simp; omega
        have HBR : Hid (¬ R ≤ a1 ∧ a1 ≤ 2) := Lib.hid ⟨hra, ha2⟩
        clear hra ha2
        have HWX := Lib.hid (ediWords1 31 (by omega) g off cap w3 (HB3.out.off.cells 0 _ rfl))
        clear HB3
        go_wp2_with fail
        refine HWX.out.mono ?_
        rintro e w4 ⟨u, rfl, HO4, HL4⟩
        have HS4 : Hid (Step p v0 v w0 w4) := Lib.hid (HS3.out.trans (Step.of_same (Same.of_below HL4.out)))
        have HC4 := Lib.hid (HC3.out.same (Same.of_below HL4.out))
        have HN4 := Lib.hid (newBuf HC3.out (Same.of_below HL4.out) HO4.out)
        have HHM := Lib.hid (hasMore w4 HC4.out T HTT.out (by have := HLEN.out; omega))
        rw [show decide (q < T) = true by simp; have := HRT.out; have := HBR.out; omega] at HHM
        obtain ⟨gu, ou, cu, hue⟩ := HN4.out.val
        have hue' : u = .slice (some ⟨gu, ou, none⟩) 1 cu := hue
        clear hue
        subst hue'
        clear HWX HL4 HC3 HS3 HO4
        go_wp2_with fail
        refine HHM.out.mono ?_
        rintro e w' ⟨rfl, mr, rfl⟩
        have HS5 : Hid (Step p v0 v w0 (w4.drewN mr)) := Lib.hid (HS4.out.trans (Step.of_same (Same.drewN w4 mr)))
        have HC5 := Lib.hid (HC4.out.same (Same.drewN w4 mr))
        have HN5 := Lib.hid (HN4.out.same (Same.drewN w4 mr))
        obtain ⟨w5, hw5⟩ : ∃ wz, wz = w4.drewN mr := ⟨_, rfl⟩
        rw [← hw5] at HS5 HC5 HN5 ⊢
        have HGN := Lib.hid (getCount w5 HC5.out)
        rw [← HWL.out] at HGN
        have HUB := Lib.hid (updBy w5 HC5.out W HD.out.2.2.2.2.2.2.2.1 (by have := HD.out; omega))
        rw [updS_ge (by have := HD.out; omega)] at HUB
        clear hw5 HHM HS4 HC4 HN4
        go_wp2_with fail
        refine HGN.out.mono ?_
        rintro e w' ⟨rfl, rfl⟩
        go_wp2_with fail
        rw [HQ3.out]
        refine HUB.out.mono ?_
        rintro e w6 ⟨sq6, rfl, HC6, HSu⟩
        have HS6 : Hid (Step p v0 v w0 w6) := Lib.hid (HS5.out.trans HSu.out)
        have HN6 := Lib.hid (HN5.out.step HC5.out HSu.out)
        have HGS := Lib.hid (getSym w6 sq6 d1 HC6.out)
        have HGP := Lib.hid (getCap w6 sq6 d1 HC6.out)
        have HGM := Lib.hid (getCount w6 HC6.out)
        rw [← HWL.out] at HGM
        clear HGN HUB HSu HC5 HS5 HN5
        go_wp2_with fail
        refine HGS.out.mono ?_
        rintro e w' ⟨rfl, rfl⟩
        go_wp2_with fail
        refine HGP.out.mono ?_
        rintro e w' ⟨rfl, rfl⟩
        go_wp2_with fail
        refine HGM.out.mono ?_
        rintro e w' ⟨rfl, rfl⟩
        clear HGS HGP
        have HWW := Lib.hid (writeWords w6 HC6.out [124] gu ou cu HN6.out.off.cells (by have := HD.out; have := HWL.out; have := HCMB.out; show ws.length + 1 < 100000; omega))
        go_wp2_with fail
        refine HWW.out.mono ?_
        rintro e w9 ⟨v9, rfl, HC9, HSW⟩
        have HS9 : Hid (Step p v0 v9 w0 w9) := Lib.hid (HS6.out.trans HSW.out)
        clear HSW HWW
        go_wp2_with fail
        refine leaves_cons (f := 106) (args := #[.pointer (some ⟨p, 0, none⟩), .int .i64 0]) (by simp) (by simp [go_sem]) ?_
        refine (signalD w9 HC9.out 0 .returning).mono ?_
        rintro e u' wz ⟨rfl, vz, rfl, HCz, HSz⟩
        exact ⟨_, results_tmp rfl _ _ _, vz, [124], q, LL, _, rfl, HCz, Lib.hid (HS9.out.trans HSz.out), HSYF.out _, rfl, HLL.out, .inr ⟨rfl, by rw [HROOM.out]; have := HHI.out; have := HBR.out; split <;> omega⟩⟩
      · have t3 : (3 : Int) ≤ (a1 : Int) := by omega
        have HBR : Hid (¬ R ≤ a1 ∧ ¬ a1 ≤ 2) := Lib.hid ⟨hra, ha2⟩
        clear hra ha2
        have HWX := Lib.hid (ediWords1 31 (by omega) g off cap w3 (HB3.out.off.cells 0 _ rfl))
        clear HB3
        go_wp2_with fail
        refine HWX.out.mono ?_
        rintro e w4 ⟨u, rfl, HO4, HL4⟩
        have HS4 : Hid (Step p v0 v w0 w4) := Lib.hid (HS3.out.trans (Step.of_same (Same.of_below HL4.out)))
        have HC4 := Lib.hid (HC3.out.same (Same.of_below HL4.out))
        have HN4 := Lib.hid (newBuf HC3.out (Same.of_below HL4.out) HO4.out)
        have HHM := Lib.hid (hasMore w4 HC4.out T HTT.out (by have := HLEN.out; omega))
        obtain ⟨hmv, hhmv⟩ : ∃ b, b = decide (q < T) := ⟨_, rfl⟩
        rw [← hhmv] at HHM
        clear hhmv
        obtain ⟨gu, ou, cu, hue⟩ := HN4.out.val
        have hue' : u = .slice (some ⟨gu, ou, none⟩) 1 cu := hue
        clear hue
        subst hue'
        clear HWX HL4 HC3 HS3 HO4
        go_wp2_with fail
        refine HHM.out.mono ?_
        rintro e w' ⟨rfl, mr, rfl⟩
        have HS5 : Hid (Step p v0 v w0 (w4.drewN mr)) := Lib.hid (HS4.out.trans (Step.of_same (Same.drewN w4 mr)))
        have HC5 := Lib.hid (HC4.out.same (Same.drewN w4 mr))
        have HN5 := Lib.hid (HN4.out.same (Same.drewN w4 mr))
        obtain ⟨w5, hw5⟩ : ∃ wz, wz = w4.drewN mr := ⟨_, rfl⟩
        rw [← hw5] at HS5 HC5 HN5 ⊢
        have HGN := Lib.hid (getCount w5 HC5.out)
        rw [← HWL.out] at HGN
        have HUB := Lib.hid (updBy w5 HC5.out W HD.out.2.2.2.2.2.2.2.1 (by have := HD.out; omega))
        rw [updS_ge (by have := HD.out; omega)] at HUB
        clear hw5 HHM HS4 HC4 HN4
        cases hmv
        · skip
          go_wp2_with fail
          refine HGN.out.mono ?_
          rintro e w' ⟨rfl, rfl⟩
          go_wp2_with fail
          rw [HQ3.out]
          refine HUB.out.mono ?_
          rintro e w6 ⟨sq6, rfl, HC6, HSu⟩
          have HS6 : Hid (Step p v0 v w0 w6) := Lib.hid (HS5.out.trans HSu.out)
          have HN6 := Lib.hid (HN5.out.step HC5.out HSu.out)
          have HGS := Lib.hid (getSym w6 sq6 d1 HC6.out)
          have HGP := Lib.hid (getCap w6 sq6 d1 HC6.out)
          have HGM := Lib.hid (getCount w6 HC6.out)
          rw [← HWL.out] at HGM
          clear HGN HUB HSu HC5 HS5 HN5
          go_wp2_with fail
          refine HGS.out.mono ?_
          rintro e w' ⟨rfl, rfl⟩
          go_wp2_with fail
          refine HGP.out.mono ?_
          rintro e w' ⟨rfl, rfl⟩
          go_wp2_with fail
          refine HGM.out.mono ?_
          rintro e w' ⟨rfl, rfl⟩
          clear HGS HGP
          have HUB := Lib.hid (updBy w6 HC6.out W1 HD.out.2.2.2.2.2.2.2.1 (by have := HD.out; omega))
          rw [updS_ge (by have := HD.out; have := HBR.out; omega)] at HUB
          go_wp2_with fail
          refine HGM.out.mono ?_
          rintro e w' ⟨rfl, rfl⟩
          go_wp2_with fail
          refine HUB.out.mono ?_
          rintro e w7 ⟨sq7, rfl, HC7, HSu⟩
          have HS7 : Hid (Step p v0 v w0 w7) := Lib.hid (HS6.out.trans HSu.out)
          have HN7 := Lib.hid (HN6.out.step HC6.out HSu.out)
          clear HGM HUB HSu HC6 HS6 HN6
          have HWW := Lib.hid (writeWords w7 HC7.out [124] gu ou cu HN7.out.off.cells (by have := HD.out; have := HWL.out; have := HCMB.out; show ws.length + 1 < 100000; omega))
          go_wp2_with fail
          refine HWW.out.mono ?_
          rintro e w9 ⟨v9, rfl, HC9, HSW⟩
          have HS9 : Hid (Step p v0 v9 w0 w9) := Lib.hid (HS7.out.trans HSW.out)
          clear HSW HWW
          go_wp2_with fail
          refine leaves_cons (f := 106) (args := #[.pointer (some ⟨p, 0, none⟩), .int .i64 0]) (by simp) (by simp [go_sem]) ?_
          refine (signalD w9 HC9.out 0 .returning).mono ?_
          rintro e u' wz ⟨rfl, vz, rfl, HCz, HSz⟩
          exact ⟨_, results_tmp rfl _ _ _, vz, [124], q, LL, _, rfl, HCz, Lib.hid (HS9.out.trans HSz.out), HSYF.out _, rfl, HLL.out, .inr ⟨rfl, by rw [HROOM.out]; have := HHI.out; have := HBR.out; split <;> omega⟩⟩
        · skip
          go_wp2_with fail
          refine HGN.out.mono ?_
          rintro e w' ⟨rfl, rfl⟩
          go_wp2_with fail
          rw [HQ3.out]
          refine HUB.out.mono ?_
          rintro e w6 ⟨sq6, rfl, HC6, HSu⟩
          have HS6 : Hid (Step p v0 v w0 w6) := Lib.hid (HS5.out.trans HSu.out)
          have HN6 := Lib.hid (HN5.out.step HC5.out HSu.out)
          have HGS := Lib.hid (getSym w6 sq6 d1 HC6.out)
          have HGP := Lib.hid (getCap w6 sq6 d1 HC6.out)
          have HGM := Lib.hid (getCount w6 HC6.out)
          rw [← HWL.out] at HGM
          clear HGN HUB HSu HC5 HS5 HN5
          go_wp2_with fail
          refine HGS.out.mono ?_
          rintro e w' ⟨rfl, rfl⟩
          go_wp2_with fail
          refine HGP.out.mono ?_
          rintro e w' ⟨rfl, rfl⟩
          go_wp2_with fail
          refine HGM.out.mono ?_
          rintro e w' ⟨rfl, rfl⟩
          clear HGS HGP
          have HUB := Lib.hid (updBy w6 HC6.out W1 HD.out.2.2.2.2.2.2.2.1 (by have := HD.out; omega))
          rw [updS_ge (by have := HD.out; have := HBR.out; omega)] at HUB
          go_wp2_with fail
          refine HGM.out.mono ?_
          rintro e w' ⟨rfl, rfl⟩
          go_wp2_with fail
          refine HUB.out.mono ?_
          rintro e w7 ⟨sq7, rfl, HC7, HSu⟩
          have HS7 : Hid (Step p v0 v w0 w7) := Lib.hid (HS6.out.trans HSu.out)
          have HN7 := Lib.hid (HN6.out.step HC6.out HSu.out)
          clear HGM HUB HSu HC6 HS6 HN6
          have HWW := Lib.hid (writeWords w7 HC7.out [124] gu ou cu HN7.out.off.cells (by have := HD.out; have := HWL.out; have := HCMB.out; show ws.length + 1 < 100000; omega))
          go_wp2_with fail
          refine HWW.out.mono ?_
          rintro e w9 ⟨v9, rfl, HC9, HSW⟩
          have HS9 : Hid (Step p v0 v9 w0 w9) := Lib.hid (HS7.out.trans HSW.out)
          clear HSW HWW
          go_wp2_with fail
          refine leaves_cons (f := 106) (args := #[.pointer (some ⟨p, 0, none⟩), .int .i64 0]) (by simp) (by simp [go_sem]) ?_
          refine (signalD w9 HC9.out 0 .returning).mono ?_
          rintro e u' wz ⟨rfl, vz, rfl, HCz, HSz⟩
          exact ⟨_, results_tmp rfl _ _ _, vz, [124], q, LL, _, rfl, HCz, Lib.hid (HS9.out.trans HSz.out), HSYF.out _, rfl, HLL.out, .inr ⟨rfl, by rw [HROOM.out]; have := HHI.out; have := HBR.out; split <;> omega⟩⟩
  · have hi : ((a0 : Int) < (R : Int)) = False := by simp; omega
    have HHI := Lib.hid hlt
    obtain ⟨LL, hLL⟩ : ∃ LL, LL = ws.length := ⟨_, rfl⟩
    have HSYF : Hid (∀ s, SyOk K.sh LL (some (s, d0))) := Lib.hid fun s => .inr ⟨s, W, by rw [HD.out.2.2.2.1], by rw [hLL, HWL.out]; omega⟩
    have HLL : Hid (LL ≤ ws.length + 1 ∧ (R = 0 → LL ≤ ws.length)) := Lib.hid ⟨by omega, fun e => by omega⟩
    clear hLL
    obtain ⟨w3, hw3⟩ : ∃ wz, wz = w2 := ⟨_, rfl⟩
    obtain ⟨sq3, hsq3⟩ : ∃ sz, sz = sq := ⟨_, rfl⟩
    have HC3 := HC2
    have HS3 := HS2
    have HB3 := HB2
    rw [← hw3, ← hsq3] at HC3
    rw [← hw3] at HS3 HB3 ⊢
    clear hlt hw3 hsq3 HC2 HS2 HB2
    by_cases hra : R ≤ a0
    · have t1 : ((R : Int) ≤ (a0 : Int)) = True := by simp; omega
      by_cases ha2 : a0 ≤ 2
      · have t2 : ((a0 : Int) ≤ 2) = True := by simp; omega
        have HBR : Hid (R ≤ a0 ∧ a0 ≤ 2) := Lib.hid ⟨hra, ha2⟩
        clear hra ha2
        go_wp2_with fail
        refine leaves_cons (f := 106) (args := #[.pointer (some ⟨p, 0, none⟩), .int .i64 0]) (by simp) (by simp [go_sem]) ?_
        refine (signalD w3 HC3.out 0 .returning).mono ?_
        rintro e u' wz ⟨rfl, vz, rfl, HCz, HSz⟩
        exact ⟨_, results_tmp rfl _ _ _, vz, [], q, LL, _, rfl, by rw [List.append_nil]; exact HCz, Lib.hid (HS3.out.trans HSz.out), HSYF.out _, rfl, HLL.out, .inl ⟨rfl, by rw [HROOM.out]; have := HHI.out; have := HBR.out; split <;> omega, by rw [HROOM.out]; have := HHI.out; have := HBR.out; split <;> omega⟩⟩
      · have t2 : ((a0 : Int) ≤ 2) = False := by simp; omega
        have t3 : (3 : Int) ≤ (a0 : Int) := by omega
        have HBR : Hid (R ≤ a0 ∧ ¬ a0 ≤ 2) := Lib.hid ⟨hra, ha2⟩
        clear hra ha2
        have HWX := Lib.hid (ediWords1 31 (by omega) g off cap w3 (HB3.out.off.cells 0 _ rfl))
        clear HB3
        go_wp2_with fail
        refine HWX.out.mono ?_
        rintro e w4 ⟨u, rfl, HO4, HL4⟩
        have HS4 : Hid (Step p v0 v w0 w4) := Lib.hid (HS3.out.trans (Step.of_same (Same.of_below HL4.out)))
        have HC4 := Lib.hid (HC3.out.same (Same.of_below HL4.out))
        have HN4 := Lib.hid (newBuf HC3.out (Same.of_below HL4.out) HO4.out)
        have HHM := Lib.hid (hasMore w4 HC4.out T HTT.out (by have := HLEN.out; omega))
        obtain ⟨hmv, hhmv⟩ : ∃ b, b = decide (q < T) := ⟨_, rfl⟩
        rw [← hhmv] at HHM
        clear hhmv
        obtain ⟨gu, ou, cu, hue⟩ := HN4.out.val
        have hue' : u = .slice (some ⟨gu, ou, none⟩) 1 cu := hue
        clear hue
        subst hue'
        clear HWX HL4 HC3 HS3 HO4
        go_wp2_with fail
        refine HHM.out.mono ?_
        rintro e w' ⟨rfl, mr, rfl⟩
        have HS5 : Hid (Step p v0 v w0 (w4.drewN mr)) := Lib.hid (HS4.out.trans (Step.of_same (Same.drewN w4 mr)))
        have HC5 := Lib.hid (HC4.out.same (Same.drewN w4 mr))
        have HN5 := Lib.hid (HN4.out.same (Same.drewN w4 mr))
        obtain ⟨w5, hw5⟩ : ∃ wz, wz = w4.drewN mr := ⟨_, rfl⟩
        rw [← hw5] at HS5 HC5 HN5 ⊢
        have HGN := Lib.hid (getCount w5 HC5.out)
        rw [← HWL.out] at HGN
        have HUB := Lib.hid (updBy w5 HC5.out W HD.out.2.2.2.2.2.2.2.1 (by have := HD.out; omega))
        rw [updS_ge (by have := HD.out; omega)] at HUB
        clear hw5 HHM HS4 HC4 HN4
        cases hmv
        · skip
          go_wp2_with fail
          refine HGN.out.mono ?_
          rintro e w' ⟨rfl, rfl⟩
          go_wp2_with fail
          rw [HQ3.out]
          refine HUB.out.mono ?_
          rintro e w6 ⟨sq6, rfl, HC6, HSu⟩
          have HS6 : Hid (Step p v0 v w0 w6) := Lib.hid (HS5.out.trans HSu.out)
          have HN6 := Lib.hid (HN5.out.step HC5.out HSu.out)
          have HGS := Lib.hid (getSym w6 sq6 d0 HC6.out)
          have HGP := Lib.hid (getCap w6 sq6 d0 HC6.out)
          have HGM := Lib.hid (getCount w6 HC6.out)
          rw [← HWL.out] at HGM
          clear HGN HUB HSu HC5 HS5 HN5
          go_wp2_with fail
          refine HGS.out.mono ?_
          rintro e w' ⟨rfl, rfl⟩
          go_wp2_with fail
          refine HGP.out.mono ?_
          rintro e w' ⟨rfl, rfl⟩
          go_wp2_with fail
          refine HGM.out.mono ?_
          rintro e w' ⟨rfl, rfl⟩
          clear HGS HGP
          have HUB := Lib.hid (updBy w6 HC6.out W1 HD.out.2.2.2.2.2.2.2.1 (by have := HD.out; omega))
          rw [updS_ge (by have := HD.out; have := HBR.out; omega)] at HUB
          go_wp2_with fail
          refine HGM.out.mono ?_
          rintro e w' ⟨rfl, rfl⟩
          go_wp2_with fail
          refine HUB.out.mono ?_
          rintro e w7 ⟨sq7, rfl, HC7, HSu⟩
          have HS7 : Hid (Step p v0 v w0 w7) := Lib.hid (HS6.out.trans HSu.out)
          have HN7 := Lib.hid (HN6.out.step HC6.out HSu.out)
          clear HGM HUB HSu HC6 HS6 HN6
          have HWW := Lib.hid (writeWords w7 HC7.out [124] gu ou cu HN7.out.off.cells (by have := HD.out; have := HWL.out; have := HCMB.out; show ws.length + 1 < 100000; omega))
          go_wp2_with fail
          refine HWW.out.mono ?_
          rintro e w9 ⟨v9, rfl, HC9, HSW⟩
          have HS9 : Hid (Step p v0 v9 w0 w9) := Lib.hid (HS7.out.trans HSW.out)
          clear HSW HWW
          go_wp2_with fail
          refine leaves_cons (f := 106) (args := #[.pointer (some ⟨p, 0, none⟩), .int .i64 0]) (by simp) (by simp [go_sem]) ?_
          refine (signalD w9 HC9.out 0 .returning).mono ?_
          rintro e u' wz ⟨rfl, vz, rfl, HCz, HSz⟩
          exact ⟨_, results_tmp rfl _ _ _, vz, [124], q, LL, _, rfl, HCz, Lib.hid (HS9.out.trans HSz.out), HSYF.out _, rfl, HLL.out, .inr ⟨rfl, by rw [HROOM.out]; have := HHI.out; have := HBR.out; split <;> omega⟩⟩
        · skip
          go_wp2_with fail
          refine HGN.out.mono ?_
          rintro e w' ⟨rfl, rfl⟩
          go_wp2_with fail
          rw [HQ3.out]
          refine HUB.out.mono ?_
          rintro e w6 ⟨sq6, rfl, HC6, HSu⟩
          have HS6 : Hid (Step p v0 v w0 w6) := Lib.hid (HS5.out.trans HSu.out)
          have HN6 := Lib.hid (HN5.out.step HC5.out HSu.out)
          have HGS := Lib.hid (getSym w6 sq6 d0 HC6.out)
          have HGP := Lib.hid (getCap w6 sq6 d0 HC6.out)
          have HGM := Lib.hid (getCount w6 HC6.out)
          rw [← HWL.out] at HGM
          clear HGN HUB HSu HC5 HS5 HN5
          go_wp2_with fail
          refine HGS.out.mono ?_
          rintro e w' ⟨rfl, rfl⟩
          go_wp2_with fail
          refine HGP.out.mono ?_
          rintro e w' ⟨rfl, rfl⟩
          go_wp2_with fail
          refine HGM.out.mono ?_
          rintro e w' ⟨rfl, rfl⟩
          clear HGS HGP
          have HUB := Lib.hid (updBy w6 HC6.out W1 HD.out.2.2.2.2.2.2.2.1 (by have := HD.out; omega))
          rw [updS_ge (by have := HD.out; have := HBR.out; omega)] at HUB
          go_wp2_with fail
          refine HGM.out.mono ?_
          rintro e w' ⟨rfl, rfl⟩
          go_wp2_with fail
          refine HUB.out.mono ?_
          rintro e w7 ⟨sq7, rfl, HC7, HSu⟩
          have HS7 : Hid (Step p v0 v w0 w7) := Lib.hid (HS6.out.trans HSu.out)
          have HN7 := Lib.hid (HN6.out.step HC6.out HSu.out)
          clear HGM HUB HSu HC6 HS6 HN6
          have HWW := Lib.hid (writeWords w7 HC7.out [124] gu ou cu HN7.out.off.cells (by have := HD.out; have := HWL.out; have := HCMB.out; show ws.length + 1 < 100000; omega))
          go_wp2_with fail
          refine HWW.out.mono ?_
          rintro e w9 ⟨v9, rfl, HC9, HSW⟩
          have HS9 : Hid (Step p v0 v9 w0 w9) := Lib.hid (HS7.out.trans HSW.out)
          clear HSW HWW
          go_wp2_with fail
          refine leaves_cons (f := 106) (args := #[.pointer (some ⟨p, 0, none⟩), .int .i64 0]) (by simp) (by simp [go_sem]) ?_
          refine (signalD w9 HC9.out 0 .returning).mono ?_
          rintro e u' wz ⟨rfl, vz, rfl, HCz, HSz⟩
          exact ⟨_, results_tmp rfl _ _ _, vz, [124], q, LL, _, rfl, HCz, Lib.hid (HS9.out.trans HSz.out), HSYF.out _, rfl, HLL.out, .inr ⟨rfl, by rw [HROOM.out]; have := HHI.out; have := HBR.out; split <;> omega⟩⟩
    · have t1 : ((R : Int) ≤ (a0 : Int)) = False := by simp; omega
      by_cases ha2 : a0 ≤ 2
      · have t3 : ((3 : Int) ≤ (a0 : Int)) = False := by simp; omega
        have HBR : Hid (¬ R ≤ a0 ∧ a0 ≤ 2) := Lib.hid ⟨hra, ha2⟩
        clear hra ha2
        have HWX := Lib.hid (ediWords1 31 (by omega) g off cap w3 (HB3.out.off.cells 0 _ rfl))
        clear HB3
        go_wp2_with fail
        refine HWX.out.mono ?_
        rintro e w4 ⟨u, rfl, HO4, HL4⟩
        have HS4 : Hid (Step p v0 v w0 w4) := Lib.hid (HS3.out.trans (Step.of_same (Same.of_below HL4.out)))
        have HC4 := Lib.hid (HC3.out.same (Same.of_below HL4.out))
        have HN4 := Lib.hid (newBuf HC3.out (Same.of_below HL4.out) HO4.out)
        have HHM := Lib.hid (hasMore w4 HC4.out T HTT.out (by have := HLEN.out; omega))
        rw [show decide (q < T) = true by simp; have := HRT.out; have := HBR.out; omega] at HHM
        obtain ⟨gu, ou, cu, hue⟩ := HN4.out.val
        have hue' : u = .slice (some ⟨gu, ou, none⟩) 1 cu := hue
        clear hue
        subst hue'
        clear HWX HL4 HC3 HS3 HO4
        go_wp2_with fail
        refine HHM.out.mono ?_
        rintro e w' ⟨rfl, mr, rfl⟩
        have HS5 : Hid (Step p v0 v w0 (w4.drewN mr)) := Lib.hid (HS4.out.trans (Step.of_same (Same.drewN w4 mr)))
        have HC5 := Lib.hid (HC4.out.same (Same.drewN w4 mr))
        have HN5 := Lib.hid (HN4.out.same (Same.drewN w4 mr))
        obtain ⟨w5, hw5⟩ : ∃ wz, wz = w4.drewN mr := ⟨_, rfl⟩
        rw [← hw5] at HS5 HC5 HN5 ⊢
        have HGN := Lib.hid (getCount w5 HC5.out)
        rw [← HWL.out] at HGN
        have HUB := Lib.hid (updBy w5 HC5.out W HD.out.2.2.2.2.2.2.2.1 (by have := HD.out; omega))
        rw [updS_ge (by have := HD.out; omega)] at HUB
        clear hw5 HHM HS4 HC4 HN4
        go_wp2_with fail
        refine HGN.out.mono ?_
        rintro e w' ⟨rfl, rfl⟩
        go_wp2_with fail
        rw [HQ3.out]
        refine HUB.out.mono ?_
        rintro e w6 ⟨sq6, rfl, HC6, HSu⟩
        have HS6 : Hid (Step p v0 v w0 w6) := Lib.hid (HS5.out.trans HSu.out)
        have HN6 := Lib.hid (HN5.out.step HC5.out HSu.out)
        have HGS := Lib.hid (getSym w6 sq6 d0 HC6.out)
        have HGP := Lib.hid (getCap w6 sq6 d0 HC6.out)
        have HGM := Lib.hid (getCount w6 HC6.out)
        rw [← HWL.out] at HGM
        clear HGN HUB HSu HC5 HS5 HN5
        go_wp2_with fail
        refine HGS.out.mono ?_
        rintro e w' ⟨rfl, rfl⟩
        go_wp2_with fail
        refine HGP.out.mono ?_
        rintro e w' ⟨rfl, rfl⟩
        go_wp2_with fail
        refine HGM.out.mono ?_
        rintro e w' ⟨rfl, rfl⟩
        clear HGS HGP
        have HWW := Lib.hid (writeWords w6 HC6.out [124] gu ou cu HN6.out.off.cells (by have := HD.out; have := HWL.out; have := HCMB.out; show ws.length + 1 < 100000; omega))
        go_wp2_with fail
        refine HWW.out.mono ?_
        rintro e w9 ⟨v9, rfl, HC9, HSW⟩
        have HS9 : Hid (Step p v0 v9 w0 w9) := Lib.hid (HS6.out.trans HSW.out)
        clear HSW HWW
        go_wp2_with fail
        refine leaves_cons (f := 106) (args := #[.pointer (some ⟨p, 0, none⟩), .int .i64 0]) (by simp) (by simp [go_sem]) ?_
        refine (signalD w9 HC9.out 0 .returning).mono ?_
        rintro e u' wz ⟨rfl, vz, rfl, HCz, HSz⟩
        exact ⟨_, results_tmp rfl _ _ _, vz, [124], q, LL, _, rfl, HCz, Lib.hid (HS9.out.trans HSz.out), HSYF.out _, rfl, HLL.out, .inr ⟨rfl, by rw [HROOM.out]; have := HHI.out; have := HBR.out; split <;> omega⟩⟩
      · have t3 : (3 : Int) ≤ (a0 : Int) := by omega
        have HBR : Hid (¬ R ≤ a0 ∧ ¬ a0 ≤ 2) := Lib.hid ⟨hra, ha2⟩
        clear hra ha2
        have HWX := Lib.hid (ediWords1 31 (by omega) g off cap w3 (HB3.out.off.cells 0 _ rfl))
        clear HB3
        go_wp2_with fail
        refine HWX.out.mono ?_
        rintro e w4 ⟨u, rfl, HO4, HL4⟩
        have HS4 : Hid (Step p v0 v w0 w4) := Lib.hid (HS3.out.trans (Step.of_same (Same.of_below HL4.out)))
        have HC4 := Lib.hid (HC3.out.same (Same.of_below HL4.out))
        have HN4 := Lib.hid (newBuf HC3.out (Same.of_below HL4.out) HO4.out)
        have HHM := Lib.hid (hasMore w4 HC4.out T HTT.out (by have := HLEN.out; omega))
        obtain ⟨hmv, hhmv⟩ : ∃ b, b = decide (q < T) := ⟨_, rfl⟩
        rw [← hhmv] at HHM
        clear hhmv
        obtain ⟨gu, ou, cu, hue⟩ := HN4.out.val
        have hue' : u = .slice (some ⟨gu, ou, none⟩) 1 cu := hue
        clear hue
        subst hue'
        clear HWX HL4 HC3 HS3 HO4
        go_wp2_with fail
        refine HHM.out.mono ?_
        rintro e w' ⟨rfl, mr, rfl⟩
        have HS5 : Hid (Step p v0 v w0 (w4.drewN mr)) := Lib.hid (HS4.out.trans (Step.of_same (Same.drewN w4 mr)))
        have HC5 := Lib.hid (HC4.out.same (Same.drewN w4 mr))
        have HN5 := Lib.hid (HN4.out.same (Same.drewN w4 mr))
        obtain ⟨w5, hw5⟩ : ∃ wz, wz = w4.drewN mr := ⟨_, rfl⟩
        rw [← hw5] at HS5 HC5 HN5 ⊢
        have HGN := Lib.hid (getCount w5 HC5.out)
        rw [← HWL.out] at HGN
        have HUB := Lib.hid (updBy w5 HC5.out W HD.out.2.2.2.2.2.2.2.1 (by have := HD.out; omega))
        rw [updS_ge (by have := HD.out; omega)] at HUB
        clear hw5 HHM HS4 HC4 HN4
        cases hmv
        · skip
          go_wp2_with fail
          refine HGN.out.mono ?_
          rintro e w' ⟨rfl, rfl⟩
          go_wp2_with fail
          rw [HQ3.out]
          refine HUB.out.mono ?_
          rintro e w6 ⟨sq6, rfl, HC6, HSu⟩
          have HS6 : Hid (Step p v0 v w0 w6) := Lib.hid (HS5.out.trans HSu.out)
          have HN6 := Lib.hid (HN5.out.step HC5.out HSu.out)
          have HGS := Lib.hid (getSym w6 sq6 d0 HC6.out)
          have HGP := Lib.hid (getCap w6 sq6 d0 HC6.out)
          have HGM := Lib.hid (getCount w6 HC6.out)
          rw [← HWL.out] at HGM
          clear HGN HUB HSu HC5 HS5 HN5
          go_wp2_with fail
          refine HGS.out.mono ?_
          rintro e w' ⟨rfl, rfl⟩
          go_wp2_with fail
          refine HGP.out.mono ?_
          rintro e w' ⟨rfl, rfl⟩
          go_wp2_with fail
          refine HGM.out.mono ?_
          rintro e w' ⟨rfl, rfl⟩
          clear HGS HGP
          have HUB := Lib.hid (updBy w6 HC6.out W1 HD.out.2.2.2.2.2.2.2.1 (by have := HD.out; omega))
          rw [updS_ge (by have := HD.out; have := HBR.out; omega)] at HUB
          go_wp2_with fail
          refine HGM.out.mono ?_
          rintro e w' ⟨rfl, rfl⟩
          go_wp2_with fail
          refine HUB.out.mono ?_
          rintro e w7 ⟨sq7, rfl, HC7, HSu⟩
          have HS7 : Hid (Step p v0 v w0 w7) := Lib.hid (HS6.out.trans HSu.out)
          have HN7 := Lib.hid (HN6.out.step HC6.out HSu.out)
          clear HGM HUB HSu HC6 HS6 HN6
          have HWW := Lib.hid (writeWords w7 HC7.out [124] gu ou cu HN7.out.off.cells (by have := HD.out; have := HWL.out; have := HCMB.out; show ws.length + 1 < 100000; omega))
          go_wp2_with fail
          refine HWW.out.mono ?_
          rintro e w9 ⟨v9, rfl, HC9, HSW⟩
          have HS9 : Hid (Step p v0 v9 w0 w9) := Lib.hid (HS7.out.trans HSW.out)
          clear HSW HWW
          go_wp2_with fail
          refine leaves_cons (f := 106) (args := #[.pointer (some ⟨p, 0, none⟩), .int .i64 0]) (by simp) (by simp [go_sem]) ?_
          refine (signalD w9 HC9.out 0 .returning).mono ?_
          rintro e u' wz ⟨rfl, vz, rfl, HCz, HSz⟩
          exact ⟨_, results_tmp rfl _ _ _, vz, [124], q, LL, _, rfl, HCz, Lib.hid (HS9.out.trans HSz.out), HSYF.out _, rfl, HLL.out, .inr ⟨rfl, by rw [HROOM.out]; have := HHI.out; have := HBR.out; split <;> omega⟩⟩
        · skip
          go_wp2_with fail
          refine HGN.out.mono ?_
          rintro e w' ⟨rfl, rfl⟩
          go_wp2_with fail
          rw [HQ3.out]
          refine HUB.out.mono ?_
          rintro e w6 ⟨sq6, rfl, HC6, HSu⟩
          have HS6 : Hid (Step p v0 v w0 w6) := Lib.hid (HS5.out.trans HSu.out)
          have HN6 := Lib.hid (HN5.out.step HC5.out HSu.out)
          have HGS := Lib.hid (getSym w6 sq6 d0 HC6.out)
          have HGP := Lib.hid (getCap w6 sq6 d0 HC6.out)
          have HGM := Lib.hid (getCount w6 HC6.out)
          rw [← HWL.out] at HGM
          clear HGN HUB HSu HC5 HS5 HN5
          go_wp2_with fail
          refine HGS.out.mono ?_
          rintro e w' ⟨rfl, rfl⟩
          go_wp2_with fail
          refine HGP.out.mono ?_
          rintro e w' ⟨rfl, rfl⟩
          go_wp2_with fail
          refine HGM.out.mono ?_
          rintro e w' ⟨rfl, rfl⟩
          clear HGS HGP
          have HUB := Lib.hid (updBy w6 HC6.out W1 HD.out.2.2.2.2.2.2.2.1 (by have := HD.out; omega))
          rw [updS_ge (by have := HD.out; have := HBR.out; omega)] at HUB
          go_wp2_with fail
          refine HGM.out.mono ?_
          rintro e w' ⟨rfl, rfl⟩
          go_wp2_with fail
          refine HUB.out.mono ?_
          rintro e w7 ⟨sq7, rfl, HC7, HSu⟩
          have HS7 : Hid (Step p v0 v w0 w7) := Lib.hid (HS6.out.trans HSu.out)
          have HN7 := Lib.hid (HN6.out.step HC6.out HSu.out)
          clear HGM HUB HSu HC6 HS6 HN6
          have HWW := Lib.hid (writeWords w7 HC7.out [124] gu ou cu HN7.out.off.cells (by have := HD.out; have := HWL.out; have := HCMB.out; show ws.length + 1 < 100000; omega))
          go_wp2_with fail
          refine HWW.out.mono ?_
          rintro e w9 ⟨v9, rfl, HC9, HSW⟩
          have HS9 : Hid (Step p v0 v9 w0 w9) := Lib.hid (HS7.out.trans HSW.out)
          clear HSW HWW
          go_wp2_with fail
          refine leaves_cons (f := 106) (args := #[.pointer (some ⟨p, 0, none⟩), .int .i64 0]) (by simp) (by simp [go_sem]) ?_
          refine (signalD w9 HC9.out 0 .returning).mono ?_
          rintro e u' wz ⟨rfl, vz, rfl, HCz, HSz⟩
          exact ⟨_, results_tmp rfl _ _ _, vz, [124], q, LL, _, rfl, HCz, Lib.hid (HS9.out.trans HSz.out), HSYF.out _, rfl, HLL.out, .inr ⟨rfl, by rw [HROOM.out]; have := HHI.out; have := HBR.out; split <;> omega⟩⟩
end Go.Proofs.YtcadknfcahmdcaaGreat
