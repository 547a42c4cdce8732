/-
  x12HandleEOD, X12Encoder.encode, walked. No condition beyond the bounds that each theorem states.
-/
import Derived.Test.YtcadknfcahmdcaaGreatDXA
import Derived.Deep.DeepCutAuto
import Derived.Deep.LoopGhost
import Derived.Deep.RegionHeld3
namespace Go.Proofs.YtcadknfcahmdcaaGreat
open Go.RowKit Go.Qz Go.Qz.DF
open Go.Qz.DV hiding val run part
set_option linter.unusedVariables false

def x12U (R a : Nat) : List Nat := if 1 < R ∨ 1 < a ∨ R ≠ a then [254] else []
/-- Where x12HandleEOD ends. -/
def XEodPost (p : Nat) (K : CK) (ws : List Nat) (pos d : Nat) (v0 : Value) (w0 : World) (e : Ending) (w' : World) : Prop := ∃ v' q, e = .returned .nilIface ∧ Hid (Ctx w' p K ws pos 0 (some (q, d)) v') ∧ Hid (Step p v0 v' w0 w')
set_option maxRecDepth 100000 in
set_option maxHeartbeats 6400000 in
theorem x12EOD {p : Nat} {K : CK} {ws : List Nat} {q pos' n : Nat} {enc : Int} {sy : Option (Nat × Nat)} {v v0 : Value} (w0 w : World) (h : Ctx w p K ws q enc sy v) (hs : Step p v0 v w0 w) (henc : enc = -1 ∨ enc = 0) (T R : Nat) (hT : T + K.skip = K.msg.length) (hlen : K.msg.length ≤ 1000) (hsh : K.sh ≤ 2) (hq : q = pos' + n) (hqT : q ≤ T) (hR : R + pos' = T) (hn : n ≤ 2) (A : Option Addr) (cap : Nat) (hw : ws.length ≤ capMost K.sh) (hsy : SyOk K.sh ws.length sy) (d a : Nat) (hd : d = capFor K.sh ws.length) (hda : d = ws.length + a) (hdb : d ≤ 2000) :
    Calls Tryz.prog 144 #[.pointer (some ⟨p, 0, none⟩), .slice A n cap] w (XEodPost p K (ws ++ x12U R a) pos' d v0 w0) := by
  have HSX := Lib.hid hs
  have HU := Lib.hid (upd w h hsh hw)
  rw [hsy.upd (Nat.le_refl _), ← hd] at HU
  obtain ⟨wl, hwl⟩ : ∃ wl, wl = ws.length := ⟨_, rfl⟩
  have HWL := Lib.hid hwl
  rw [← hwl] at hda
  have HTT := Lib.hid hT
  have HRT := Lib.hid hR
  have HLEN := Lib.hid hlen
  have q1' : IntKind.i64.wrap ((d : Int) - (wl : Int)) = (a : Int) := by rw [IntKind.wrap_i64]; omega
  have q2' : IntKind.i64.wrap ((q : Int) - (n : Int)) = (pos' : Int) := by rw [IntKind.wrap_i64]; omega
  have hab : a ≤ 2000 := by omega
  have hRb : R ≤ 1000 := by omega
  have HDA := Lib.hid hda
  have HWB : Hid (wl ≤ 2000) := Lib.hid (by omega)
  clear h hs hsh hw hsy hd hwl hT hR hda hq hqT hn
  go_enter Tryz.func144, Tryz.ntmps144
  go_wp2_with fail
  refine HU.out.mono ?_
  rintro e w1 ⟨sq, rfl, HC1, HSu⟩
  have HS1 : Hid (Step p v0 v w0 w1) := Lib.hid (HSX.out.trans HSu.out)
  have HGS := Lib.hid (getSym w1 sq d HC1.out)
  have HGP := Lib.hid (getCap w1 sq d HC1.out)
  have HGN := Lib.hid (getCount w1 HC1.out)
  rw [← HWL.out] at HGN
  clear HSX HU HSu
  go_wp2_with fail
  refine HGS.out.mono ?_
  rintro e w' ⟨rfl, rfl⟩
  go_wp2_with fail
  refine HGP.out.mono ?_
  rintro e w' ⟨rfl, rfl⟩
  go_wp2_with fail
  refine HGN.out.mono ?_
  rintro e w' ⟨rfl, rfl⟩
  have c5 := HC1.out.cells.2.2.2.2.2.1
  have f5 := HC1.out.ar.free 5
  have HC2 := Lib.hid (HC1.out.setPos pos')
  have hst := Mod.set1 w1 p 5 (.int .i64 pos')
  obtain ⟨w2, hw2⟩ : ∃ wz, wz = w1.setCell ⟨p, 5, none⟩ (.int .i64 pos') := ⟨_, rfl⟩
  rw [← hw2] at HC2 hst
  have HS2 : Hid (Step p v0 v w0 w2) := Lib.hid (HS1.out.trans (Step.of_p hst))
  have HW2 := Lib.hid hw2
  clear hst hw2 HC1 HS1 HGS HGP HGN
  go_upto_region 7 with (fail)
  rw [← HW2.out]
  clear HW2 c5 f5
  go_cut [42] from 30 to 41 (fun b wx => ∃ bb : Bool, b = .bool bb ∧ Hid (bb = true ↔ (1 < R ∨ 1 < a ∨ R ≠ a)) ∧ Hid (Same w2 wx))
  case first =>
    have HR1 := Lib.hid (fun X (hX : Same w2 X) => getRemain X (HC2.out.same hX) T R HTT.out (by have := HLEN.out; omega) HRT.out)
    go_wp2_with fail
    refine (HR1.out w2 (Same.refl _)).mono ?_
    rintro e w' ⟨rfl, mq, rfl⟩
    by_cases h1 : 1 < R
    · have h1' : (1 < R) = True := by simp [h1]
      have h1i : decide ((1 : Int) < (R : Int)) = true := by simp; omega
      go_wp2_with fail
      go_meet
      case rel => exact ⟨true, rfl, Lib.hid ⟨fun _ => .inl h1, fun _ => rfl⟩, Lib.hid (Same.drewN w2 mq)⟩
    · have h1i : ((1 : Int) < (R : Int)) = False := by simp; omega
      by_cases h2 : 1 < a
      · have h2i : decide ((1 : Int) < (a : Int)) = true := by simp; omega
        go_wp2_with fail
        go_meet
        case rel => exact ⟨true, rfl, Lib.hid ⟨fun _ => .inr (.inl h2), fun _ => rfl⟩, Lib.hid (Same.drewN w2 mq)⟩
      · have h2i : ((1 : Int) < (a : Int)) = False := by simp; omega
        have HR2 := Lib.hid (HR1.out (w2.drewN mq) (Same.drewN w2 mq))
        by_cases h3 : R = a
        · have h3i : ((R : Int) != (a : Int)) = false := by simp [h3]
          have h3j : ((a : Int) != (a : Int)) = false := by simp
          have HH3 := Lib.hid h3
          clear h3
          go_wp2_with fail
          refine HR2.out.mono ?_
          rintro e w' ⟨rfl, mr, rfl⟩
          go_wp2_with fail
          go_meet
          case rel => exact ⟨false, rfl, Lib.hid ⟨fun h => (by cases h), fun h => by have := HH3.out; omega⟩, Lib.hid (Same.drewN w2 (mq + mr))⟩
        · have h3i : ((R : Int) != (a : Int)) = true := by simp; omega
          go_wp2_with fail
          refine HR2.out.mono ?_
          rintro e w' ⟨rfl, mr, rfl⟩
          go_wp2_with fail
          go_meet
          case rel => exact ⟨true, rfl, Lib.hid ⟨fun _ => .inr (.inr h3), fun _ => rfl⟩, Lib.hid (Same.drewN w2 (mq + mr))⟩
  case rest =>
    obtain ⟨bb, rfl, HBB, HSR⟩ := hcut
    obtain ⟨w3, hw3⟩ : ∃ wz, wz = wc := ⟨_, rfl⟩
    rw [← hw3] at HSR ⊢
    clear hw3
    have HC3 := Lib.hid (HC2.out.same HSR.out)
    have HS3 : Hid (Step p v0 v w0 w3) := Lib.hid (HS2.out.trans (Step.of_same HSR.out))
    clear HC2 HS2 HSR
    cases bb
    · have HUE : Hid (x12U R a = []) := Lib.hid (by unfold x12U; rw [if_neg (fun h => by have := HBB.out.2 h; cases this)])
      have HGE := Lib.hid (getNewEnc w3 HC3.out)
      clear HBB
      go_wp2_with fail
      refine HGE.out.mono ?_
      rintro e w' ⟨rfl, rfl⟩
      rcases henc with rfl | rfl
      · go_wp2_with fail
        refine (signal w3 HC3.out 0).mono ?_
        rintro e w5 ⟨v5, rfl, HC5, HS5⟩
        have HS6 : Hid (Step p v0 v5 w0 w5) := Lib.hid (HS3.out.trans HS5.out)
        go_wp2_with fail
        go_ret
        exact ⟨v5, sq, rfl, (by rw [HUE.out, List.append_nil]; exact HC5), HS6⟩
      · go_wp2_with fail
        go_ret
        exact ⟨v, sq, rfl, (by rw [HUE.out, List.append_nil]; exact HC3), HS3⟩
    · have HUE : Hid (x12U R a = [254]) := Lib.hid (by unfold x12U; rw [if_pos (HBB.out.1 rfl)])
      clear HBB
      go_wp2_with fail
      refine (writeWord w3 HC3.out 254 (by have := HWL.out; have := HWB.out; omega)).mono ?_
      rintro e w4 ⟨v4, rfl, HC4, HS4⟩
      have HS4' : Hid (Step p v0 v4 w0 w4) := Lib.hid (HS3.out.trans HS4.out)
      have HGE := Lib.hid (getNewEnc w4 HC4.out)
      clear HC3 HS3 HS4
      go_wp2_with fail
      refine HGE.out.mono ?_
      rintro e w' ⟨rfl, rfl⟩
      rcases henc with rfl | rfl
      · go_wp2_with fail
        refine (signal w4 HC4.out 0).mono ?_
        rintro e w5 ⟨v5, rfl, HC5, HS5⟩
        have HS6 : Hid (Step p v0 v5 w0 w5) := Lib.hid (HS4'.out.trans HS5.out)
        go_wp2_with fail
        go_ret
        exact ⟨v5, sq, rfl, (by rw [HUE.out]; exact HC5), HS6⟩
      · go_wp2_with fail
        go_ret
        exact ⟨v4, sq, rfl, (by rw [HUE.out]; exact HC4), HS4'⟩
set_option maxRecDepth 100000 in
theorem x12Mode (w : World) : Calls Tryz.prog 142 #[.agg #[]] w fun e w' => e = .returned (.int .i64 3) ∧ Hid (Below w.heap.size w w') := by
  have HB := Lib.hid ((Below.refl w.heap.size w).alloc (Nat.le_refl _) (.cells #[] 86))
  go_enter Tryz.func142, Tryz.ntmps142
  go_wp2_with fail
  go_ret
  exact ⟨rfl, HB⟩
theorem atX12 {W : World} {p : Nat} {K : CK} {ws : List Nat} {pos : Nat} {enc : Int} {sy : Option (Nat × Nat)} {v : Value} (X : World) (h : Ctx W p K ws pos enc sy v) (hX : X.cell? ⟨p, 5, none⟩ = some (.int .i64 pos) ∧ Hid (Same W X)) : Calls Tryz.prog 142 #[.agg #[]] X fun e w' => e = .returned (.int .i64 3) ∧ (w'.cell? ⟨p, 5, none⟩ = some (.int .i64 pos) ∧ Hid (Same W w')) := by
  refine (x12Mode X).mono ?_
  rintro e w' ⟨rfl, hbel⟩
  have hs : Same W w' := Mod.trans (S := fun _ => False) hX.2.out (Same.of_below hbel.out)
  exact ⟨rfl, (h.same hs).cells.2.2.2.2.2.1, Lib.hid hs⟩
/-- A segment of X12 behind its latch. -/
def X12Out (sh T : Nat) (s : List Nat) (W pos : Nat) (tl : List Nat) (pos' : Nat) : Prop :=
  ∃ n U, pos' = pos + 3 * n ∧ 1 ≤ n ∧ pos' ≤ T ∧ tl = trips ((DV.part s pos pos').map xv) ++ U ∧ (U = [254] ∨ (U = [] ∧ T ≤ pos' + 2 ∧ capFor sh (W + 2 * n + (T - pos')) ≤ W + 2 * n + 1))
def X12Post (p : Nat) (K : CK) (ws : List Nat) (pos T : Nat) (v0 : Value) (w0 : World) (e : Ending) (w' : World) : Prop :=
  ∃ (v' : Value) (tl : List Nat) (pos' q L' : Nat), e = .returned .nilIface ∧ Hid (Ctx w' p K (ws ++ tl) pos' 0 (some (q, capFor K.sh L')) v') ∧ Hid (Step p v0 v' w0 w') ∧ Hid (X12Out K.sh T K.msg ws.length pos tl pos') ∧ Hid (L' ≤ ws.length + tl.length)
theorem xpart_len {s : List Nat} {p q : Nat} (hq : q ≤ s.length) : ((DV.part s p q).map xv).length = q - p := by rw [List.length_map, part_len hq]
theorem xtrips_len {s : List Nat} {p q n : Nat} (hq : q ≤ s.length) (h : q = p + 3 * n) : (trips ((DV.part s p q).map xv)).length = 2 * n := trips_len n _ (by rw [xpart_len hq]; omega)
/-- The end of a segment of X12. -/
theorem x12Call {p : Nat} {K : CK} {ws : List Nat} {pos q qb j n : Nat} {enc : Int} {sy : Option (Nat × Nat)} {v v0 : Value} (w0 w : World) (h : Ctx w p K (ws ++ trips ((DV.part K.msg pos qb).map xv)) q enc sy v) (hs : Step p v0 v w0 w) (henc : enc = -1 ∨ enc = 0) (T : Nat) (hT : T + K.skip = K.msg.length) (hlen : K.msg.length ≤ 1000) (hsh : K.sh ≤ 2) (hqb : qb = pos + 3 * j) (hj : 1 ≤ j) (hq : q = qb + n) (hqT : q ≤ T) (hn : n ≤ 2) (A : Option Addr) (cap : Nat) (hw : ws.length + 2 * j ≤ capMost K.sh) (hsy : SyOk K.sh ws.length sy) :
    Calls Tryz.prog 144 #[.pointer (some ⟨p, 0, none⟩), .slice A n cap] w (X12Post p K ws pos T v0 w0) := by
  have hTm : T ≤ K.msg.length := by omega
  have hl : (ws ++ trips ((DV.part K.msg pos qb).map xv)).length = ws.length + 2 * j := by rw [List.length_append, xtrips_len (n := j) (by omega) hqb]
  have hm := cap_le_most K.sh
  have hcap := capFor_mem hsh (show ws.length + 2 * j ≤ mostOf K.sh by omega)
  have hcapl := capFor_le hsh (show ws.length + 2 * j ≤ mostOf K.sh by omega)
  have hmo : mostOf K.sh ≤ 1558 := by unfold mostOf; split <;> omega
  refine (x12EOD w0 w h hs henc T (T - qb) hT hlen hsh hq hqT (by omega) hn A cap (by rw [hl]; exact hw) (by rw [hl]; exact hsy.mono (by omega)) (capFor K.sh (ws.length + 2 * j)) (capFor K.sh (ws.length + 2 * j) - (ws.length + 2 * j)) (by rw [hl]) (by rw [hl]; omega) (by omega)).mono ?_
  rintro e w' ⟨v', sq, rfl, HC, HS⟩
  refine ⟨v', trips ((DV.part K.msg pos qb).map xv) ++ x12U (T - qb) (capFor K.sh (ws.length + 2 * j) - (ws.length + 2 * j)), qb, sq, ws.length + 2 * j, rfl, by rw [← List.append_assoc]; exact HC, HS, Lib.hid ⟨j, _, hqb, hj, by omega, rfl, ?_⟩, Lib.hid ?_⟩
  · unfold x12U
    split
    · exact .inl rfl
    · rename_i hno
      refine .inr ⟨rfl, by omega, ?_⟩
      rw [capFor_stay (shape := K.sh) (m := ws.length + 2 * j) (n := ws.length + 2 * j + (T - qb)) (by omega) (by omega)]
      omega
  · rw [List.length_append, xtrips_len (n := j) (by omega) hqb]; omega
set_option maxRecDepth 100000 in
set_option maxHeartbeats 12800000 in
theorem x12Encode {p : Nat} {K : CK} {ws : List Nat} {pos : Nat} {sy : Option (Nat × Nat)} {v0 : Value} (w0 : World) (h : Ctx w0 p K ws pos (-1) sy v0) (T : Nat) (hT : T + K.skip = K.msg.length) (hlen : K.msg.length ≤ 1000) (hmb : ∀ i, i < K.msg.length → nth K.msg i < 128) (hX : ∀ i, pos ≤ i → i < T → isX (nth K.msg i) = true) (hsh : K.sh ≤ 2) (hpT : pos + 2 < T) (hsy : SyOk K.sh ws.length sy) (hw : ws.length ≤ 2 * pos + 1) (hcm : 2 * T + 6 ≤ capMost K.sh) :
    Calls Tryz.prog 141 #[.agg #[], .pointer (some ⟨p, 0, none⟩)] w0 (X12Post p K ws pos T v0 w0) := by
  have hm0 := fun X => run_make0 (P := Tryz.prog) 24 5 (.int .u8 0) 1 Tryz.underlying24 Tryz.infoBy rfl (by decide) 0 (by omega) .i64 .i64 0 rfl X
  obtain ⟨W0, hW0⟩ : ∃ W0, W0 = w0.alloc (.cells #[] 86) := ⟨_, rfl⟩
  have hS0 : Same w0 W0 := by rw [hW0]; exact Mod.alloc (Mod.refl _) _
  obtain ⟨W, hW⟩ : ∃ W, W = W0.alloc (.cells (zeros 0 (.int .u8 0)) 5) := ⟨_, rfl⟩
  have hS1 : Same W0 W := by rw [hW]; exact Mod.alloc (Mod.refl _) _
  have hS : Same w0 W := Mod.trans (S := fun _ => False) hS0 hS1
  obtain ⟨base, hbase⟩ : ∃ base, base = w0.heap.size := ⟨_, rfl⟩
  obtain ⟨b1, hb1⟩ : ∃ b1, b1 = W0.heap.size := ⟨_, rfl⟩
  have hb1b : base ≤ b1 := by rw [hbase, hb1]; exact Mod.size (S := fun _ => False) hS0
  have HC0 := Lib.hid (h.same hS)
  have HS0 : Hid (Step p v0 v0 w0 W) := Lib.hid (Step.of_same hS)
  have HB0 : Hid (Buf W K v0 base (.slice (some ⟨b1, 0, none⟩) 0 0) []) := Lib.hid ⟨by
      rw [hW, hb1]; exact off_make0 W0 5 (.int .u8 0) 0 base (by omega) (by unfold maxLen; omega), by
      obtain ⟨g, off, cap, _, hob, hlt, _⟩ := h.cw.block
      rw [hob]; intro e; have e2 : b1 = g := Option.some.inj e; omega, by
      obtain ⟨g, off, cap, e3, hob, hlt, _⟩ := h.ms.block
      injection e3 with e3
      injection e3 with e3
      injection e3 with e3
      intro e; have e2 : b1 = K.mb := Option.some.inj e; omega, by rw [hbase]; exact Mod.size (S := fun _ => False) hS⟩
  have e0 : W0.heap.size = w0.heap.size + 1 := by rw [hW0]; simp
  have HBASE := Lib.hid hbase
  have HW := Lib.hid hW
  have HW0 := Lib.hid hW0
  have HB1 := Lib.hid hb1
  have HE0 := Lib.hid e0
  have HTT := Lib.hid hT
  have HMB := Lib.hid hmb
  have HXX := Lib.hid hX
  have HSY := Lib.hid hsy
  have HSH := Lib.hid hsh
  have HPT := Lib.hid hpT
  have HCM := Lib.hid hcm
  have HLEN := Lib.hid hlen
  have HWB := Lib.hid hw
  have hTb : T ≤ 1000 := by omega
  have hTm : T ≤ K.msg.length := by omega
  have HTM := Lib.hid hTm
  have HCB : Hid (capMost K.sh ≤ 1304) := Lib.hid (by unfold capMost; split <;> omega)
  clear h hS hS0 hS1 hbase hb1 hb1b hW hW0 hT hmb hX hsy hsh hw hpT hcm e0 hTm
  go_enter Tryz.func141, Tryz.ntmps141
  go_upto_region 1 with (fail)
  rw [← HW0.out]
  obtain ⟨bx, hbx⟩ : ∃ bx, bx = w0.heap.size := ⟨_, rfl⟩
  rw [← hbx]
  clear hbx HW0 HE0
  go_wp2_with fail
  rw [← HW.out, ← HB1.out]
  clear HW HB1
  go_loopg [5] (T - pos) (fun k b wr => ∃ (q qb j g off n cap : Nat) (v : Value), k = T - q ∧ b = .slice (some ⟨g, off, none⟩) n cap ∧ q ≤ T ∧ Hid (qb = pos + 3 * j ∧ q = qb + n) ∧ n ≤ 2 ∧ Hid (Buf wr K v base (.slice (some ⟨g, off, none⟩) n cap) ((DV.part K.msg qb q).map xv)) ∧ Hid (Ctx wr p K (ws ++ trips ((DV.part K.msg pos qb).map xv)) q (-1) sy v) ∧ Hid (Step p v0 v w0 wr))
  case atStart => exact ⟨pos, pos, 0, b1, 0, 0, 0, v0, rfl, rfl, by have := HPT.out; omega, Lib.hid ⟨rfl, rfl⟩, by omega, by rw [part_self]; exact HB0, by rw [part_self]; simp only [List.map_nil, trips, List.append_nil]; exact HC0, HS0⟩
  case round =>
    obtain ⟨wo, hwo⟩ : ∃ wo, wo = wr := ⟨_, rfl⟩
    rw [← hwo] at hrel ⊢
    clear hwo HB0 HC0 HS0
    obtain ⟨q, qb, j, g, off, n, cap, v, hgk, rfl, hqT, HQ, hn2, HB, HC, HS⟩ := hrel
    have HGK := Lib.hid hgk
    have HHM := Lib.hid (hasMore wo HC.out T HTT.out (by have := HLEN.out; omega))
    obtain ⟨hmv, hhmv⟩ : ∃ b, b = decide (q < T) := ⟨_, rfl⟩
    rw [← hhmv] at HHM
    have HMV := Lib.hid hhmv
    have HJ : Hid (ws.length + 2 * j + 2 ≤ capMost K.sh ∧ ws.length ≤ 2000) := Lib.hid (by have := HQ.out; have := HWB.out; have := HCM.out; have := HCB.out; omega)
    clear hgk hhmv
    go_wp2_with fail
    refine HHM.out.mono ?_
    rintro e w' ⟨rfl, mq, rfl⟩
    obtain ⟨w1, hw1⟩ : ∃ wz, wz = wo.drewN mq := ⟨_, rfl⟩
    have HC1 := Lib.hid (HC.out.same (Same.drewN wo mq))
    have HS1 : Hid (Step p v0 v w0 (wo.drewN mq)) := Lib.hid (HS.out.trans (Step.of_same (Same.drewN wo mq)))
    have HB1 := Lib.hid (HB.out.same (Same.drewN wo mq))
    rw [← hw1] at HC1 HS1 HB1 ⊢
    clear hw1 HC HS HB HHM
    cases hmv
    · have hend : ¬ q < T := by have := HMV.out; simpa using this.symm
      have HCALL := Lib.hid (x12Call (pos := pos) (j := j) w0 w1 HC1.out HS1.out (.inl rfl) T HTT.out HLEN.out HSH.out HQ.out.1 (by have := HQ.out; have := HPT.out; omega) HQ.out.2 hqT hn2 (some ⟨g, off, none⟩) cap (by have := HJ.out; omega) HSY.out)
      clear HMV HC1 HS1 HB1
      go_wp2_with fail
      refine HCALL.out.mono ?_
      rintro e w9 ⟨v9, tl, pos', q9, L9, rfl, HC9, HS9, HO9, HL9⟩
      go_wp2_with fail
      go_ret
      exact ⟨v9, tl, pos', q9, L9, rfl, HC9, HS9, HO9, HL9⟩
    · have hmore : q < T := by have := HMV.out; simpa using this.symm
      clear HMV
      --[more
      have hqm : q < K.msg.length := by have := HTM.out; omega
      obtain ⟨c, hc⟩ : ∃ c, c = nth K.msg q := ⟨_, rfl⟩
      have HGC := Lib.hid (getCur w1 HC1.out hqm (by omega))
      have hcx : isX c = true := by rw [hc]; exact HXX.out q (by have := HQ.out; omega) hmore
      rw [← hc] at HGC
      have HCE := Lib.hid hc
      have HCX := Lib.hid hcx
      clear hc hcx
      go_wp2_with fail
      refine HGC.out.mono ?_
      rintro e w' ⟨rfl, mq, rfl⟩
      obtain ⟨w2, hw2⟩ : ∃ wz, wz = w1.drewN mq := ⟨_, rfl⟩
      have HC2 := Lib.hid (HC1.out.same (Same.drewN w1 mq))
      have HS2 : Hid (Step p v0 v w0 (w1.drewN mq)) := Lib.hid (HS1.out.trans (Step.of_same (Same.drewN w1 mq)))
      have HB2 := Lib.hid (HB1.out.same (Same.drewN w1 mq))
      rw [← hw2] at HC2 HS2 HB2 ⊢
      clear hw2 HC1 HS1 HB1 HGC
      obtain ⟨q1, hq1⟩ : ∃ q1, q1 = q + 1 := ⟨_, rfl⟩
      have wq : Hid ((q : Int) + 1 = (q1 : Int)) := Lib.hid (by omega)
      have c5 := HC2.out.cells.2.2.2.2.2.1
      have f5 := HC2.out.ar.free 5
      have HC3 := Lib.hid (HC2.out.setPos q1)
      have hst := Mod.set1 w2 p 5 (.int .i64 q1)
      obtain ⟨w3, hw3⟩ : ∃ wz, wz = w2.setCell ⟨p, 5, none⟩ (.int .i64 q1) := ⟨_, rfl⟩
      rw [← hw3] at HC3 hst
      have HS3 : Hid (Step p v0 v w0 w3) := Lib.hid (HS2.out.trans (Step.of_p hst))
      have HB3 := Lib.hid (HB2.out.step HC2.out (Step.of_p hst))
      have HW3 := Lib.hid hw3
      have HQ1 := Lib.hid hq1
      have hnl : ((DV.part K.msg qb q).map xv).length = n := by rw [xpart_len (by omega)]; have := HQ.out; omega
      have HCH := Lib.hid (x12Char c HCX.out ((DV.part K.msg qb q).map xv) (by rw [hnl]; omega) base (.slice (some ⟨g, off, none⟩) n cap) w3 HB3.out.off HB3.out.bb)
      clear hst hw3 HS2 HB2 hq1 hnl
      go_upto_region 5 with (fail)
      rw [wq.out, ← HW3.out]
      clear HC2 c5 f5 HW3
      go_wp2_with fail
      refine HCH.out.mono ?_
      rintro e w4 ⟨bv, rfl, HO4, HG4⟩
      have e1 : (DV.part K.msg qb q).map xv ++ [xv c] = (DV.part K.msg qb q1).map xv := by
        have hpa : DV.part K.msg qb (q + 1) = DV.part K.msg qb q ++ DV.part K.msg q (q + 1) := part_add (by have := HQ.out; omega) (by omega) (by omega)
        rw [HQ1.out, HCE.out, hpa, part_one hqm, List.map_append]; rfl
      rw [e1] at HO4
      obtain ⟨hb4, hc4⟩ := HB3.out.grew HC3.out HG4.out HO4.out
      obtain ⟨g4, off4, cap4, hv4⟩ := hb4.val
      obtain ⟨n4, hn4⟩ : ∃ n4, n4 = n + 1 := ⟨_, rfl⟩
      have hln : ((DV.part K.msg qb q1).map xv).length = n4 := by rw [xpart_len (by have := HQ1.out; omega)]; have := HQ.out; have := HQ1.out; omega
      rw [hln] at hv4
      subst hv4
      have HB4 := Lib.hid hb4
      have HC4 := Lib.hid hc4
      have HLN := Lib.hid hln
      have HN4 := Lib.hid hn4
      have HS4 : Hid (Step p v0 v w0 w4) := Lib.hid (HS3.out.buf (HBASE.out ▸ HB3.out) HG4.out)
      have hn3 : n4 ≤ 3 := by omega
      have HKK : Hid (T - q1 < gk) := Lib.hid (by have := HGK.out; have := HQ1.out; omega)
      have hq1T : q1 ≤ T := by have := HQ1.out; omega
      clear e1 hb4 hc4 hln hn4 HB3 HC3 HS3 HCH HO4 HG4 wq
      by_cases h3 : n4 = 3
      · obtain rfl : n4 = 3 := h3
        --[trip
        have q4' : (((3 : Nat) : Int)).tmod 3 = 0 := by decide
        obtain ⟨xa, xb, xc, hX⟩ : ∃ a b c, (DV.part K.msg qb q1).map xv = [a, b, c] := by
          have hl := HLN.out
          match (DV.part K.msg qb q1).map xv, hl with
          | [a, b, c], _ => exact ⟨a, b, c, rfl⟩
          | [], hl => simp at hl
          | [_], hl => simp at hl
          | [_, _], hl => simp at hl
          | _ :: _ :: _ :: _ :: _, hl => simp at hl
        have hx40 : ∀ x ∈ (DV.part K.msg qb q1).map xv, x < 40 := fun x hx => by
          obtain ⟨c', hc', rfl⟩ := List.mem_map.1 hx
          have hp : ∀ x ∈ DV.part K.msg qb q1, x < 128 ∧ isX x = true := part_mem fun i h1 h2 h3 => ⟨HMB.out i h3, HXX.out i (by have := HQ.out; omega) (by omega)⟩
          exact (xv_ok (hp c' hc').1 (hp c' hc').2).1
        rw [hX] at hx40
        have hB4 := HB4.out
        rw [hX] at hB4
        have hwl : (ws ++ trips ((DV.part K.msg pos qb).map xv)).length + 2 < 100000 := by
          rw [List.length_append, xtrips_len (n := j) (by have := HQ.out; have := HTM.out; omega) HQ.out.1]
          have := HJ.out; have := HCB.out; omega
        have HT := Lib.hid (bufTrip w4 HC4.out hwl xa xb xc [] (hx40 xa (by simp)) (hx40 xb (by simp)) (hx40 xc (by simp)) g4 off4 3 cap4 base rfl (by omega) hB4)
        have HXE := Lib.hid hX
        clear hX hx40 hB4 hwl HB4 HC4
        go_wp2_with fail
        refine HT.out.mono ?_
        rintro e w5 ⟨v5, o5, c5', m5, hm5, rfl, HB5, HC5, HS5⟩
        obtain rfl : m5 = 0 := by omega
        have HS5' : Hid (Step p v0 v5 w0 w5) := Lib.hid (HS4.out.trans HS5.out)
        have e2 : ws ++ trips ((DV.part K.msg pos qb).map xv) ++ trip xa xb xc = ws ++ trips ((DV.part K.msg pos q1).map xv) := by
          have hpa : DV.part K.msg pos q1 = DV.part K.msg pos qb ++ DV.part K.msg qb q1 := part_add (by have := HQ.out; omega) (by have := HQ.out; have := HQ1.out; omega) (by have := HTM.out; omega)
          rw [hpa, List.map_append, HXE.out, trips_append j _ _ (by rw [xpart_len (by have := HQ.out; have := HTM.out; omega)]; have := HQ.out; omega), List.append_assoc]
          simp [trips]
        rw [e2] at HC5
        have HQ5 : Hid (q1 = pos + 3 * (j + 1) ∧ q1 = q1 + 0) := Lib.hid (by have := HQ.out; have := HQ1.out; have := HN4.out; omega)
        have hq2000 : q1 ≤ 2000 := by omega
        obtain ⟨mb, hmb⟩ : ∃ mb, mb = K.mb := ⟨_, rfl⟩
        obtain ⟨mc, hmc⟩ : ∃ mc, mc = K.mc := ⟨_, rfl⟩
        obtain ⟨L, hL⟩ : ∃ L, L = K.msg.length := ⟨_, rfl⟩
        have HX1 := Lib.hid (fun X hX => atMsg HC5.out hmb hmc hL X hX)
        have HX2 := Lib.hid (fun X hX => atX12 X HC5.out hX)
        have HX3 := Lib.hid (fun X hX => atAhead HC5.out hmb hmc hL 3 (by omega) HLEN.out hq2000 HMB.out X hX)
        have hs0 : (w5.drew.cell? ⟨p, 5, none⟩ = some (.int .i64 q1) ∧ Hid (Same w5 w5.drew)) := ⟨HC5.out.cells.2.2.2.2.2.1, Lib.hid (Same.drewN w5 1)⟩
        clear hmb hmc hL e2 hm5 HT HS4 HS5 HXE
        go_upto_region 12 with (fail)
        go_cut [9] from 39 to 47 (fun vv wx => ∃ r : Nat, vv = .int .i64 r ∧ Hid (Same w5 wx))
        case first =>
          --[c12
          clear hq2000 hqm hq1T hn3 hn2 hqT hTb hmore hm0 hlen q4'
          go_region_held3 (fun w' => w'.cell? ⟨p, 5, none⟩ = some (.int .i64 q1) ∧ Hid (Same w5 w')) (first | exact hs0 | exact hs3 | exact hs4 | exact hs5)
            (first | (go_at_call 102; refine (HX1.out _ (by assumption)).mono ?_; rintro e w3 ⟨rfl, hs3⟩) | (go_at_call 142; refine (HX2.out _ (by assumption)).mono ?_; rintro e w3 ⟨rfl, hs4⟩) | (go_at_call 105; refine (HX3.out _ (by assumption)).mono ?_; rintro e w3 ⟨r, rfl, hs5, HLK⟩))
          all_goals
            go_wp2_with fail
            go_meet
            case rel => exact ⟨r, rfl, hs5.2⟩
          --]c12
        case rest =>
          obtain ⟨r, rfl, HSR⟩ := hcut
          obtain ⟨w7, hw7⟩ : ∃ wz, wz = wc := ⟨_, rfl⟩
          rw [← hw7] at HSR ⊢
          clear hw7 hs0 HX1 HX2 HX3
          have HC7 := Lib.hid (HC5.out.same HSR.out)
          have HS7 : Hid (Step p v0 v5 w0 w7) := Lib.hid (HS5'.out.trans (Step.of_same HSR.out))
          have HB7 := Lib.hid (HB5.out.same HSR.out)
          clear HC5 HS5' HB5 HSR
          go_wp2_with fail
          refine (x12Mode w7).mono ?_
          rintro e w8 ⟨rfl, hb8⟩
          have HC8 := Lib.hid (HC7.out.same (Same.of_below hb8.out))
          have HS8 : Hid (Step p v0 v5 w0 w8) := Lib.hid (HS7.out.trans (Step.of_same (Same.of_below hb8.out)))
          have HB8 := Lib.hid (HB7.out.same (Same.of_below hb8.out))
          clear HC7 HS7 HB7 hb8
          by_cases hrm : r = 3
          · have n0 : ((r : Int) != 3) = false := by simp; omega
            clear hrm
            go_wp2_with fail
            go_roundg (T - q1)
            case measure => exact HKK.out
            case rel => exact ⟨q1, q1, j + 1, g4, o5, 0, c5', v5, rfl, rfl, hq1T, HQ5, by omega, by rw [part_self]; exact HB8, HC8, HS8⟩
          · have n0 : ((r : Int) != 3) = true := by simp; omega
            clear hrm
            go_wp2_with fail
            refine (signal w8 HC8.out 0).mono ?_
            rintro e w9 ⟨v9, rfl, HC9, HSs⟩
            have HS9 : Hid (Step p v0 v9 w0 w9) := Lib.hid (HS8.out.trans HSs.out)
            have HCALL := Lib.hid (x12Call (pos := pos) (j := j + 1) w0 w9 HC9.out HS9.out (.inr rfl) T HTT.out HLEN.out HSH.out HQ5.out.1 (by omega) HQ5.out.2 hq1T (by omega) (some ⟨g4, o5, none⟩) c5' (by have := HJ.out; omega) HSY.out)
            clear HC8 HS8 HB8 HSs HC9 HS9
            go_wp2_with fail
            refine HCALL.out.mono ?_
            rintro e w10 ⟨v10, tl, pos', q9, L9, rfl, HC10, HS10, HO10, HL10⟩
            go_wp2_with fail
            go_ret
            exact ⟨v10, tl, pos', q9, L9, rfl, HC10, HS10, HO10, HL10⟩
        --]trip
      · obtain ⟨r4, hr4⟩ : ∃ r, r = n4 % 3 := ⟨_, rfl⟩
        have q4' : (n4 : Int).tmod 3 = (r4 : Int) := by rw [Int.tmod_eq_emod_of_nonneg (by omega)]; omega
        have q4a : (n4 : Int) % 3 = (r4 : Int) := by omega
        have hr0 : ¬ r4 = 0 := by have := HN4.out; omega
        have d0 : ((r4 : Int) == 0) = false := by simp; omega
        have HQ4 : Hid (qb = pos + 3 * j ∧ q1 = qb + n4) := Lib.hid (by have := HQ.out; have := HQ1.out; have := HN4.out; omega)
        have hn42 : n4 ≤ 2 := by omega
        clear hr4 hr0 h3
        go_wp2_with fail
        go_roundg (T - q1)
        case measure => exact HKK.out
        case rel => exact ⟨q1, qb, j, g4, off4, n4, cap4, v, rfl, rfl, hq1T, HQ4, hn42, HB4, HC4, HS4⟩
      --]more
end Go.Proofs.YtcadknfcahmdcaaGreat
