/-
  edifactHandleEOD, walked. No condition beyond the bounds that each theorem states.
-/
import Derived.Test.YtcadknfcahmdcaaGreatDXA
import Derived.Test.YtcadknfcahmdcaaGreatDWE
import Derived.Defers
import Derived.Deep.DeepCutAuto
import Derived.Deep.RegionHeld3
namespace Go.Proofs.YtcadknfcahmdcaaGreat
open Go.RowKit Go.Qz Go.Qz.DF
open Go.Qz.DV hiding val run part
set_option linter.unusedVariables false

set_option maxRecDepth 100000 in
theorem signalD {p : Nat} {K : CK} {ws : List Nat} {pos : Nat} {enc : Int} {sy : Option (Nat × Nat)} {v : Value} (w : World) (h : Ctx w p K ws pos enc sy v) (x : Int) (u : FrameMode) : CallsD Tryz.prog 106 #[.pointer (some ⟨p, 0, none⟩), .int .i64 x] u w fun e u' w' => u' = u ∧ WPost p K ws pos x sy v w e w' := by
  have HC' := Lib.hid (h.setEnc x)
  have HST : Hid (Step p v v w (w.setCell ⟨p, 6, none⟩ (.int .i64 x))) := Lib.hid (Step.of_p (Mod.set1 w p 6 _))
  obtain ⟨c0, c1, c2, c3, c4, c5, c6, c7, c8⟩ := h.cells
  have f6 := h.ar.free 6
  clear h c0 c1 c2 c3 c4 c5 c7 c8
  go_enter_d Tryz.func106, Tryz.ntmps106
  go_wp2_with fail
  exact ⟨rfl, .tuple #[], by simp [results, Tryz.results106, go_sem], v, rfl, HC', HST⟩
/-- What stands behind edifactHandleEOD. -/
def EdEod (p : Nat) (K : CK) (ws : List Nat) (v0 : Value) (w0 : World) (Z : List Nat → Nat → Nat → Prop) (e : Ending) (w' : World) : Prop :=
  ∃ (v' : Value) (U : List Nat) (pos' L' : Nat) (sy' : Option (Nat × Nat)), e = .returned .nilIface ∧ Hid (Ctx w' p K (ws ++ U) pos' 0 sy' v') ∧ Hid (Step p v0 v' w0 w') ∧ SyOk K.sh L' sy' ∧ Z U pos' L'
set_option maxRecDepth 100000 in
set_option maxHeartbeats 6400000 in
theorem ediEOD3 {p : Nat} {K : CK} {ws : List Nat} {q cap base : Nat} {enc : Int} {sy : Option (Nat × Nat)} {v v0 : Value} (w0 w : World) (h : Ctx w p K ws q enc sy v) (hs : Step p v0 v w0 w) (T : Nat) (hT : T + K.skip = K.msg.length) (hlen : K.msg.length ≤ 1000) (hqT : q = T) (a b c : Nat) (ha : a < 64) (hb : b < 64) (hc : c < 64) (g off : Nat) (hbuf : Buf w K v base (.slice (some ⟨g, off, none⟩) 4 cap) [a, b, c, 31]) (hw : ws.length ≤ 2000) (hsy : SyOk K.sh ws.length sy) :
    Calls Tryz.prog 150 #[.pointer (some ⟨p, 0, none⟩), .slice (some ⟨g, off, none⟩) 4 cap] w (EdEod p K ws v0 w0 fun U pos' L' => U = DV.six3 a b c 31 ∧ pos' = q ∧ L' = ws.length) := by
  go_enter_defers Tryz.func150, Tryz.ntmps150
  go_wp2_with fail
  refine (ediWords4 a b c 31 ha hb hc (by omega) g off cap w (hbuf.off.cells 0 _ rfl) (hbuf.off.cells 1 _ rfl) (hbuf.off.cells 2 _ rfl) (hbuf.off.cells 3 _ rfl)).mono ?_
  rintro e w1 ⟨u, rfl, HO1, HB1⟩
  have HS1 : Hid (Step p v0 v w0 w1) := Lib.hid (hs.trans (Step.of_same (Same.of_below HB1.out)))
  have HC1 := Lib.hid (h.same (Same.of_below HB1.out))
  have HHM := Lib.hid (hasMore w1 HC1.out T hT (by omega))
  rw [show decide (q < T) = false by simp; omega] at HHM
  obtain ⟨gu, ou, cu, hue, _⟩ := HO1.out.block
  have HO1' := HO1.out
  subst hue
  have HWB := Lib.hid hw
  have HSY := Lib.hid hsy
  clear h hs hT hlen hqT ha hb hc hbuf hw hsy HO1 HB1
  go_wp2_with fail
  refine HHM.out.mono ?_
  rintro e w' ⟨rfl, mq, rfl⟩
  have HS2 : Hid (Step p v0 v w0 (w1.drewN mq)) := Lib.hid (HS1.out.trans (Step.of_same (Same.drewN w1 mq)))
  have HC2 := Lib.hid (HC1.out.same (Same.drewN w1 mq))
  have HO2 := Lib.hid (HO1'.mod (Same.drewN w1 mq) fun _ _ h => h)
  obtain ⟨w2, hw2⟩ : ∃ wz, wz = w1.drewN mq := ⟨_, rfl⟩
  rw [← hw2] at HS2 HC2 HO2 ⊢
  have HWW := Lib.hid (writeWords w2 HC2.out (DV.six3 a b c 31) gu ou cu HO2.out.cells (by have := HWB.out; show ws.length + 3 < 100000; omega))
  clear hw2 HS1 HC1 HO1' HHM
  go_wp2_with fail
  refine HWW.out.mono ?_
  rintro e w3 ⟨v3, rfl, HC3, HSW⟩
  have HS3 : Hid (Step p v0 v3 w0 w3) := Lib.hid (HS2.out.trans HSW.out)
  clear HSW HWW HC2 HO2 HS2
  go_wp2_with fail
  refine leaves_cons (f := 106) (args := #[.pointer (some ⟨p, 0, none⟩), .int .i64 0]) (by simp) (by simp [go_sem]) ?_
  refine (signalD w3 HC3.out 0 .returning).mono ?_
  rintro e u' w4 ⟨rfl, v4, rfl, HC4, HS4⟩
  exact ⟨_, results_tmp rfl _ _ _, v4, DV.six3 a b c 31, q, ws.length, sy, rfl, HC4, Lib.hid (HS3.out.trans HS4.out), HSY.out, rfl, rfl, rfl⟩
end Go.Proofs.YtcadknfcahmdcaaGreat
