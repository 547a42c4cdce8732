/-
  edifactHandleEOD with one or two bytes, walked (printed by genDXG.py). No condition beyond the bounds that each theorem states.
-/
import Derived.Test.YtcadknfcahmdcaaGreatDXF
namespace Go.Proofs.YtcadknfcahmdcaaGreat
open Go.RowKit Go.Qz Go.Qz.DF
open Go.Qz.DV hiding val run part
set_option linter.unusedVariables false

set_option maxRecDepth 100000 in
set_option maxHeartbeats 6400000 in
theorem ediEODr1 {p : Nat} {K : CK} {ws : List Nat} {q cap : Nat} {enc : Int} {sy : Option (Nat × Nat)} {v v0 : Value} (w0 w : World) (h : Ctx w p K ws q enc sy v) (hs : Step p v0 v w0 w) (T : Nat) (hT : T + K.skip = K.msg.length) (hlen : K.msg.length ≤ 1000) (hqT : q = T) (hn : 1 ≤ q) (hsh : K.sh ≤ 2) (U : List Nat) (hU : U.length = 2) (g off : Nat) (hW : Calls Tryz.prog 149 #[.slice (some ⟨g, off, none⟩) 2 cap] w (EdiPost U w)) (hw : ws.length + 2 ≤ capMost K.sh) (hsy : SyOk K.sh ws.length sy) :
    Calls Tryz.prog 150 #[.pointer (some ⟨p, 0, none⟩), .slice (some ⟨g, off, none⟩) 2 cap] w (EdEod p K ws v0 w0 fun U' pos' L' => (U' = U ∧ pos' = q ∧ L' = ws.length + 1 ∧ ws.length + 3 ≤ capFor K.sh (ws.length + 1)) ∨ (U' = [] ∧ pos' = q - 1 ∧ L' = ws.length ∧ capFor K.sh (ws.length + 1) ≤ ws.length + 2)) := by
  have hm := cap_le_most K.sh
  have hcm : capMost K.sh ≤ 1304 := by unfold capMost; split <;> omega
  have hcap := (capFor_mem hsh (show ws.length + 1 ≤ mostOf K.sh by omega)).2
  have hcapl := capFor_le hsh (show ws.length + 1 ≤ mostOf K.sh by omega)
  have hmo : mostOf K.sh ≤ 1558 := by unfold mostOf; split <;> omega
  obtain ⟨W, hW0⟩ : ∃ W, W = ws.length := ⟨_, rfl⟩
  obtain ⟨d2, hd2⟩ : ∃ d, d = capFor K.sh (ws.length + 1) := ⟨_, rfl⟩
  obtain ⟨a2, ha2⟩ : ∃ a, W + a = d2 := ⟨d2 - W, by omega⟩
  obtain ⟨Wn, hWn⟩ : ∃ Wn, Wn = W + 1 := ⟨_, rfl⟩
  obtain ⟨Wc, hWc⟩ : ∃ Wc, Wc = W + 2 := ⟨_, rfl⟩
  obtain ⟨qn, hqn⟩ : ∃ qn, qn = q - 1 := ⟨_, rfl⟩
  have q1 : IntKind.i64.wrap ((d2 : Int) - (W : Int)) = (a2 : Int) := by rw [IntKind.wrap_i64]; omega
  have q2 : IntKind.i64.wrap ((W : Int) + 1) = (Wn : Int) := by rw [IntKind.wrap_i64]; omega
  have q3 : IntKind.i64.wrap ((W : Int) + 2) = (Wc : Int) := by rw [IntKind.wrap_i64]; omega
  have q4 : IntKind.i64.wrap ((q : Int) - 1) = (qn : Int) := by rw [IntKind.wrap_i64]; omega
  have ha2b : a2 ≤ 2000 := by omega
  have HHMF := Lib.hid (fun X (hX : Ctx X p K ws q enc sy v) => hasMore X hX T hT (by omega))
  rw [show decide (q < T) = false by simp; omega] at HHMF
  have HSTEP := Lib.hid hs
  have HCTX := Lib.hid h
  have HWL := Lib.hid hW0
  have HWW0 := Lib.hid hW
  have HSY := Lib.hid hsy
  have HU := Lib.hid hU
  have HD : Hid (Wn = W + 1 ∧ Wc = W + 2 ∧ qn = q - 1 ∧ W + a2 = d2 ∧ d2 = capFor K.sh (W + 1) ∧ Wc ≤ capMost K.sh ∧ capMost K.sh ≤ 1304 ∧ K.sh ≤ 2) := Lib.hid ⟨hWn, hWc, hqn, ha2, by rw [hW0]; exact hd2, by omega, hcm, hsh⟩
  clear h hs hT hlen hqT hn hsh hU hW hw hsy hm hcm hcap hcapl hmo hW0 hd2 ha2 hWn hWc hqn
  go_enter_defers Tryz.func150, Tryz.ntmps150
  go_wp2_with fail
  refine HWW0.out.mono ?_
  rintro e w1 ⟨u, rfl, HO1, HL1⟩
  have HS1 : Hid (Step p v0 v w0 w1) := Lib.hid (HSTEP.out.trans (Step.of_same (Same.of_below HL1.out)))
  have HC1 := Lib.hid (HCTX.out.same (Same.of_below HL1.out))
  have HN1 := Lib.hid (newBuf HCTX.out (Same.of_below HL1.out) HO1.out)
  have HHM := Lib.hid (HHMF.out w1 HC1.out)
  obtain ⟨gu, ou, cu, hue⟩ := HN1.out.val
  rw [HU.out] at hue
  subst hue
  clear HWW0 HL1 HO1 HSTEP HCTX HHMF
  go_wp2_with fail
  refine HHM.out.mono ?_
  rintro e w' ⟨rfl, mr, rfl⟩
  have HS2 : Hid (Step p v0 v w0 (w1.drewN mr)) := Lib.hid (HS1.out.trans (Step.of_same (Same.drewN w1 mr)))
  have HC2 := Lib.hid (HC1.out.same (Same.drewN w1 mr))
  have HN2 := Lib.hid (HN1.out.same (Same.drewN w1 mr))
  obtain ⟨w2, hw2⟩ : ∃ wz, wz = w1.drewN mr := ⟨_, rfl⟩
  rw [← hw2] at HS2 HC2 HN2 ⊢
  have HGN := Lib.hid (getCount w2 HC2.out)
  rw [← HWL.out] at HGN
  have HUB := Lib.hid (updBy w2 HC2.out Wn HD.out.2.2.2.2.2.2.2 (by have := HD.out; omega))
  have hdd : updS K.sh Wn sy = d2 := by
    have hD := HD.out
    rw [HSY.out.upd (by have := HWL.out; omega), hD.1]; exact hD.2.2.2.2.1.symm
  rw [hdd] at HUB
  clear hw2 hdd HHM HS1 HC1 HN1
  go_wp2_with fail
  refine HGN.out.mono ?_
  rintro e w' ⟨rfl, rfl⟩
  go_wp2_with fail
  refine HUB.out.mono ?_
  rintro e w3 ⟨sq3, rfl, HC3, HSu⟩
  have HS3 : Hid (Step p v0 v w0 w3) := Lib.hid (HS2.out.trans HSu.out)
  have HN3 := Lib.hid (HN2.out.step HC2.out HSu.out)
  have HGS := Lib.hid (getSym w3 sq3 d2 HC3.out)
  have HGP := Lib.hid (getCap w3 sq3 d2 HC3.out)
  have HGM := Lib.hid (getCount w3 HC3.out)
  rw [← HWL.out] at HGM
  clear HGN HUB HSu HC2 HS2 HN2
  go_wp2_with fail
  refine HGS.out.mono ?_
  rintro e w' ⟨rfl, rfl⟩
  go_wp2_with fail
  refine HGP.out.mono ?_
  rintro e w' ⟨rfl, rfl⟩
  go_wp2_with fail
  refine HGM.out.mono ?_
  rintro e w' ⟨rfl, rfl⟩
  clear HGS HGP
  by_cases h3 : 3 ≤ a2
  · have t3 : (3 : Int) ≤ (a2 : Int) := by omega
    have H3 := Lib.hid h3
    have HUB := Lib.hid (updBy w3 HC3.out Wc HD.out.2.2.2.2.2.2.2 (by have := HD.out; omega))
    rw [updS_ge (by have := HD.out; omega)] at HUB
    clear h3
    go_wp2_with fail
    refine HGM.out.mono ?_
    rintro e w' ⟨rfl, rfl⟩
    go_wp2_with fail
    refine HUB.out.mono ?_
    rintro e w4 ⟨sq4, rfl, HC4, HSu⟩
    have HS4 : Hid (Step p v0 v w0 w4) := Lib.hid (HS3.out.trans HSu.out)
    have HN4 := Lib.hid (HN3.out.step HC3.out HSu.out)
    have HWW := Lib.hid (writeWords w4 HC4.out U gu ou cu (by have := HN4.out.off; rw [HU.out] at this; exact this.cells) (by have := HD.out; have := HWL.out; have := HU.out; omega))
    rw [HU.out] at HWW
    clear HGM HUB HSu HC3 HS3 HN3
    go_wp2_with fail
    refine HWW.out.mono ?_
    rintro e w5 ⟨v5, rfl, HC5, HSW⟩
    have HS5 : Hid (Step p v0 v5 w0 w5) := Lib.hid (HS4.out.trans HSW.out)
    clear HSW HWW HC4 HS4 HN4
    go_wp2_with fail
    refine leaves_cons (f := 106) (args := #[.pointer (some ⟨p, 0, none⟩), .int .i64 0]) (by simp) (by simp [go_sem]) ?_
    refine (signalD w5 HC5.out 0 .returning).mono ?_
    rintro e u' wz ⟨rfl, vz, rfl, HCz, HSz⟩
    exact ⟨_, results_tmp rfl _ _ _, vz, U, q, ws.length + 1, _, rfl, HCz, Lib.hid (HS5.out.trans HSz.out), .inr ⟨sq4, ws.length + 1, by rw [HD.out.2.2.2.2.1, HWL.out], Nat.le_refl _⟩, .inl ⟨rfl, rfl, rfl, by rw [← HWL.out, ← HD.out.2.2.2.2.1]; have := HD.out; have := H3.out; omega⟩⟩
  · have t3 : ((3 : Int) ≤ (a2 : Int)) = False := by simp; omega
    have H3 := Lib.hid h3
    have HRS := Lib.hid (resetSym w3 HC3.out)
    clear h3
    go_wp2_with fail
    refine HRS.out.mono ?_
    rintro e w4 ⟨v4, rfl, HC4, HSu⟩
    have HS4 : Hid (Step p v0 v4 w0 w4) := Lib.hid (HS3.out.trans HSu.out)
    have c5 := HC4.out.cells.2.2.2.2.2.1
    have f5 := HC4.out.ar.free 5
    have HC5 := Lib.hid (HC4.out.setPos qn)
    have hst := Mod.set1 w4 p 5 (.int .i64 qn)
    obtain ⟨w5, hw5⟩ : ∃ wz, wz = w4.setCell ⟨p, 5, none⟩ (.int .i64 qn) := ⟨_, rfl⟩
    rw [← hw5] at HC5 hst
    have HS5 : Hid (Step p v0 v4 w0 w5) := Lib.hid (HS4.out.trans (Step.of_p hst))
    have HW5 := Lib.hid hw5
    clear hst hw5 HRS HSu HC3 HS3 HN3 HC4 HS4
    go_wp2_with fail
    rw [← HW5.out]
    refine leaves_cons (f := 106) (args := #[.pointer (some ⟨p, 0, none⟩), .int .i64 0]) (by simp) (by simp [go_sem]) ?_
    refine (signalD w5 HC5.out 0 .returning).mono ?_
    rintro e u' wz ⟨rfl, vz, rfl, HCz, HSz⟩
    exact ⟨_, results_tmp rfl _ _ _, vz, [], qn, ws.length, _, rfl, by rw [List.append_nil]; exact HCz, Lib.hid (HS5.out.trans HSz.out), .inl rfl, .inr ⟨rfl, HD.out.2.2.1, rfl, by rw [← HWL.out, ← HD.out.2.2.2.2.1]; have := HD.out; have := H3.out; omega⟩⟩
set_option maxRecDepth 100000 in
set_option maxHeartbeats 6400000 in
theorem ediEODr2 {p : Nat} {K : CK} {ws : List Nat} {q cap : Nat} {enc : Int} {sy : Option (Nat × Nat)} {v v0 : Value} (w0 w : World) (h : Ctx w p K ws q enc sy v) (hs : Step p v0 v w0 w) (T : Nat) (hT : T + K.skip = K.msg.length) (hlen : K.msg.length ≤ 1000) (hqT : q = T) (hn : 2 ≤ q) (hsh : K.sh ≤ 2) (U : List Nat) (hU : U.length = 3) (g off : Nat) (hW : Calls Tryz.prog 149 #[.slice (some ⟨g, off, none⟩) 3 cap] w (EdiPost U w)) (hw : ws.length + 3 ≤ capMost K.sh) (hsy : SyOk K.sh ws.length sy) :
    Calls Tryz.prog 150 #[.pointer (some ⟨p, 0, none⟩), .slice (some ⟨g, off, none⟩) 3 cap] w (EdEod p K ws v0 w0 fun U' pos' L' => (U' = U ∧ pos' = q ∧ L' = ws.length + 2 ∧ ws.length + 3 ≤ capFor K.sh (ws.length + 2)) ∨ (U' = [] ∧ pos' = q - 2 ∧ L' = ws.length ∧ capFor K.sh (ws.length + 2) ≤ ws.length + 2)) := by
  have hm := cap_le_most K.sh
  have hcm : capMost K.sh ≤ 1304 := by unfold capMost; split <;> omega
  have hcap := (capFor_mem hsh (show ws.length + 2 ≤ mostOf K.sh by omega)).2
  have hcapl := capFor_le hsh (show ws.length + 2 ≤ mostOf K.sh by omega)
  have hmo : mostOf K.sh ≤ 1558 := by unfold mostOf; split <;> omega
  obtain ⟨W, hW0⟩ : ∃ W, W = ws.length := ⟨_, rfl⟩
  obtain ⟨d2, hd2⟩ : ∃ d, d = capFor K.sh (ws.length + 2) := ⟨_, rfl⟩
  obtain ⟨a2, ha2⟩ : ∃ a, W + a = d2 := ⟨d2 - W, by omega⟩
  obtain ⟨Wn, hWn⟩ : ∃ Wn, Wn = W + 2 := ⟨_, rfl⟩
  obtain ⟨Wc, hWc⟩ : ∃ Wc, Wc = W + 3 := ⟨_, rfl⟩
  obtain ⟨qn, hqn⟩ : ∃ qn, qn = q - 2 := ⟨_, rfl⟩
  have q1 : IntKind.i64.wrap ((d2 : Int) - (W : Int)) = (a2 : Int) := by rw [IntKind.wrap_i64]; omega
  have q2 : IntKind.i64.wrap ((W : Int) + 2) = (Wn : Int) := by rw [IntKind.wrap_i64]; omega
  have q3 : IntKind.i64.wrap ((W : Int) + 3) = (Wc : Int) := by rw [IntKind.wrap_i64]; omega
  have q4 : IntKind.i64.wrap ((q : Int) - 2) = (qn : Int) := by rw [IntKind.wrap_i64]; omega
  have ha2b : a2 ≤ 2000 := by omega
  have HHMF := Lib.hid (fun X (hX : Ctx X p K ws q enc sy v) => hasMore X hX T hT (by omega))
  rw [show decide (q < T) = false by simp; omega] at HHMF
  have HSTEP := Lib.hid hs
  have HCTX := Lib.hid h
  have HWL := Lib.hid hW0
  have HWW0 := Lib.hid hW
  have HSY := Lib.hid hsy
  have HU := Lib.hid hU
  have HD : Hid (Wn = W + 2 ∧ Wc = W + 3 ∧ qn = q - 2 ∧ W + a2 = d2 ∧ d2 = capFor K.sh (W + 2) ∧ Wc ≤ capMost K.sh ∧ capMost K.sh ≤ 1304 ∧ K.sh ≤ 2) := Lib.hid ⟨hWn, hWc, hqn, ha2, by rw [hW0]; exact hd2, by omega, hcm, hsh⟩
  clear h hs hT hlen hqT hn hsh hU hW hw hsy hm hcm hcap hcapl hmo hW0 hd2 ha2 hWn hWc hqn
  go_enter_defers Tryz.func150, Tryz.ntmps150
  go_wp2_with fail
  refine HWW0.out.mono ?_
  rintro e w1 ⟨u, rfl, HO1, HL1⟩
  have HS1 : Hid (Step p v0 v w0 w1) := Lib.hid (HSTEP.out.trans (Step.of_same (Same.of_below HL1.out)))
  have HC1 := Lib.hid (HCTX.out.same (Same.of_below HL1.out))
  have HN1 := Lib.hid (newBuf HCTX.out (Same.of_below HL1.out) HO1.out)
  have HHM := Lib.hid (HHMF.out w1 HC1.out)
  obtain ⟨gu, ou, cu, hue⟩ := HN1.out.val
  rw [HU.out] at hue
  subst hue
  clear HWW0 HL1 HO1 HSTEP HCTX HHMF
  go_wp2_with fail
  refine HHM.out.mono ?_
  rintro e w' ⟨rfl, mr, rfl⟩
  have HS2 : Hid (Step p v0 v w0 (w1.drewN mr)) := Lib.hid (HS1.out.trans (Step.of_same (Same.drewN w1 mr)))
  have HC2 := Lib.hid (HC1.out.same (Same.drewN w1 mr))
  have HN2 := Lib.hid (HN1.out.same (Same.drewN w1 mr))
  obtain ⟨w2, hw2⟩ : ∃ wz, wz = w1.drewN mr := ⟨_, rfl⟩
  rw [← hw2] at HS2 HC2 HN2 ⊢
  have HGN := Lib.hid (getCount w2 HC2.out)
  rw [← HWL.out] at HGN
  have HUB := Lib.hid (updBy w2 HC2.out Wn HD.out.2.2.2.2.2.2.2 (by have := HD.out; omega))
  have hdd : updS K.sh Wn sy = d2 := by
    have hD := HD.out
    rw [HSY.out.upd (by have := HWL.out; omega), hD.1]; exact hD.2.2.2.2.1.symm
  rw [hdd] at HUB
  clear hw2 hdd HHM HS1 HC1 HN1
  go_wp2_with fail
  refine HGN.out.mono ?_
  rintro e w' ⟨rfl, rfl⟩
  go_wp2_with fail
  refine HUB.out.mono ?_
  rintro e w3 ⟨sq3, rfl, HC3, HSu⟩
  have HS3 : Hid (Step p v0 v w0 w3) := Lib.hid (HS2.out.trans HSu.out)
  have HN3 := Lib.hid (HN2.out.step HC2.out HSu.out)
  have HGS := Lib.hid (getSym w3 sq3 d2 HC3.out)
  have HGP := Lib.hid (getCap w3 sq3 d2 HC3.out)
  have HGM := Lib.hid (getCount w3 HC3.out)
  rw [← HWL.out] at HGM
  clear HGN HUB HSu HC2 HS2 HN2
  go_wp2_with fail
  refine HGS.out.mono ?_
  rintro e w' ⟨rfl, rfl⟩
  go_wp2_with fail
  refine HGP.out.mono ?_
  rintro e w' ⟨rfl, rfl⟩
  go_wp2_with fail
  refine HGM.out.mono ?_
  rintro e w' ⟨rfl, rfl⟩
  clear HGS HGP
  by_cases h3 : 3 ≤ a2
  · have t3 : (3 : Int) ≤ (a2 : Int) := by omega
    have H3 := Lib.hid h3
    have HUB := Lib.hid (updBy w3 HC3.out Wc HD.out.2.2.2.2.2.2.2 (by have := HD.out; omega))
    rw [updS_ge (by have := HD.out; omega)] at HUB
    clear h3
    go_wp2_with fail
    refine HGM.out.mono ?_
    rintro e w' ⟨rfl, rfl⟩
    go_wp2_with fail
    refine HUB.out.mono ?_
    rintro e w4 ⟨sq4, rfl, HC4, HSu⟩
    have HS4 : Hid (Step p v0 v w0 w4) := Lib.hid (HS3.out.trans HSu.out)
    have HN4 := Lib.hid (HN3.out.step HC3.out HSu.out)
    have HWW := Lib.hid (writeWords w4 HC4.out U gu ou cu (by have := HN4.out.off; rw [HU.out] at this; exact this.cells) (by have := HD.out; have := HWL.out; have := HU.out; omega))
    rw [HU.out] at HWW
    clear HGM HUB HSu HC3 HS3 HN3
    go_wp2_with fail
    refine HWW.out.mono ?_
    rintro e w5 ⟨v5, rfl, HC5, HSW⟩
    have HS5 : Hid (Step p v0 v5 w0 w5) := Lib.hid (HS4.out.trans HSW.out)
    clear HSW HWW HC4 HS4 HN4
    go_wp2_with fail
    refine leaves_cons (f := 106) (args := #[.pointer (some ⟨p, 0, none⟩), .int .i64 0]) (by simp) (by simp [go_sem]) ?_
    refine (signalD w5 HC5.out 0 .returning).mono ?_
    rintro e u' wz ⟨rfl, vz, rfl, HCz, HSz⟩
    exact ⟨_, results_tmp rfl _ _ _, vz, U, q, ws.length + 2, _, rfl, HCz, Lib.hid (HS5.out.trans HSz.out), .inr ⟨sq4, ws.length + 2, by rw [HD.out.2.2.2.2.1, HWL.out], Nat.le_refl _⟩, .inl ⟨rfl, rfl, rfl, by rw [← HWL.out, ← HD.out.2.2.2.2.1]; have := HD.out; have := H3.out; omega⟩⟩
  · have t3 : ((3 : Int) ≤ (a2 : Int)) = False := by simp; omega
    have H3 := Lib.hid h3
    have HRS := Lib.hid (resetSym w3 HC3.out)
    clear h3
    go_wp2_with fail
    refine HRS.out.mono ?_
    rintro e w4 ⟨v4, rfl, HC4, HSu⟩
    have HS4 : Hid (Step p v0 v4 w0 w4) := Lib.hid (HS3.out.trans HSu.out)
    have c5 := HC4.out.cells.2.2.2.2.2.1
    have f5 := HC4.out.ar.free 5
    have HC5 := Lib.hid (HC4.out.setPos qn)
    have hst := Mod.set1 w4 p 5 (.int .i64 qn)
    obtain ⟨w5, hw5⟩ : ∃ wz, wz = w4.setCell ⟨p, 5, none⟩ (.int .i64 qn) := ⟨_, rfl⟩
    rw [← hw5] at HC5 hst
    have HS5 : Hid (Step p v0 v4 w0 w5) := Lib.hid (HS4.out.trans (Step.of_p hst))
    have HW5 := Lib.hid hw5
    clear hst hw5 HRS HSu HC3 HS3 HN3 HC4 HS4
    go_wp2_with fail
    rw [← HW5.out]
    refine leaves_cons (f := 106) (args := #[.pointer (some ⟨p, 0, none⟩), .int .i64 0]) (by simp) (by simp [go_sem]) ?_
    refine (signalD w5 HC5.out 0 .returning).mono ?_
    rintro e u' wz ⟨rfl, vz, rfl, HCz, HSz⟩
    exact ⟨_, results_tmp rfl _ _ _, vz, [], qn, ws.length, _, rfl, by rw [List.append_nil]; exact HCz, Lib.hid (HS5.out.trans HSz.out), .inl rfl, .inr ⟨rfl, HD.out.2.2.1, rfl, by rw [← HWL.out, ← HD.out.2.2.2.2.1]; have := HD.out; have := H3.out; omega⟩⟩
end Go.Proofs.YtcadknfcahmdcaaGreat
