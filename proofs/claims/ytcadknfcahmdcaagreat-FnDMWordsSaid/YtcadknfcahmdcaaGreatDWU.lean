/-
  ASCIIEncoder.encode, walked. No condition beyond the bounds that each theorem states.
-/
import Derived.Test.YtcadknfcahmdcaaGreatDWR
import Derived.Test.YtcadknfcahmdcaaGreatDWN
import Derived.Deep.RegionHeld3
namespace Go.Proofs.YtcadknfcahmdcaaGreat
open Go.RowKit Go.Qz Go.Qz.DF
set_option linter.unusedVariables false

set_option maxRecDepth 100000 in
theorem ascMode (w : World) : Calls Tryz.prog 100 #[.agg #[]] w fun e w' => e = .returned (.int .i64 0) ∧ Hid (Below w.heap.size w w') := by
  have HB := Lib.hid ((Below.refl w.heap.size w).alloc (Nat.le_refl _) (.cells #[] 81))
  go_enter Tryz.func100, Tryz.ntmps100
  go_wp2_with fail
  go_ret
  exact ⟨rfl, HB⟩
/-- What ASCII does: two digits, a byte, a latch. -/
def AscOut (msg ws : List Nat) (pos : Nat) (ws' : List Nat) (pos' : Nat) (enc' : Int) : Prop :=
  (enc' = -1 ∧ ((pos + 1 < msg.length ∧ (48 ≤ nth msg pos ∧ nth msg pos ≤ 57) ∧ (48 ≤ nth msg (pos + 1) ∧ nth msg (pos + 1) ≤ 57) ∧ ws' = ws ++ [130 + ((nth msg pos - 48) * 10 + (nth msg (pos + 1) - 48))] ∧ pos' = pos + 2) ∨ (ws' = ws ++ [nth msg pos + 1] ∧ pos' = pos + 1))) ∨
  (∃ m : Nat, 1 ≤ m ∧ m ≤ 4 ∧ enc' = m ∧ ws' = ws ++ [DV.latch m] ∧ pos' = pos ∧ Look msg pos 0 m)
def AscPost (p : Nat) (K : CK) (ws : List Nat) (pos : Nat) (sy : Option (Nat × Nat)) (v : Value) (w : World) (e : Ending) (w' : World) : Prop :=
  ∃ (v' : Value) (ws' : List Nat) (pos' : Nat) (enc' : Int), e = .returned .nilIface ∧ Hid (Ctx w' p K ws' pos' enc' sy v') ∧ Hid (Step p v v' w w') ∧ Hid (AscOut K.msg ws pos ws' pos' enc')
theorem isD_iff {c : Nat} : isD c = true ↔ 48 ≤ c ∧ c ≤ 57 := by unfold isD; simp
/-- The place can be read, and nothing has been written. -/
def AtS (p pos : Nat) (W X : World) : Prop := X.cell? ⟨p, 5, none⟩ = some (.int .i64 pos) ∧ Hid (Same W X)
section
variable {p : Nat} {K : CK} {ws : List Nat} {pos : Nat} {enc : Int} {sy : Option (Nat × Nat)} {v : Value} {W : World}
theorem AtS.start (h : Ctx W p K ws pos enc sy v) : AtS p pos W W := ⟨h.cells.2.2.2.2.2.1, Lib.hid (Same.refl W)⟩
theorem atMsg (h : Ctx W p K ws pos enc sy v) {mb mc L : Nat} (hmb : mb = K.mb) (hmc : mc = K.mc) (hL : L = K.msg.length) (X : World) (hX : X.cell? ⟨p, 5, none⟩ = some (.int .i64 pos) ∧ Hid (Same W X)) : Calls Tryz.prog 102 #[.pointer (some ⟨p, 0, none⟩)] X fun e w' => e = .returned (.slice (some ⟨mb, 0, none⟩) L mc) ∧ (w'.cell? ⟨p, 5, none⟩ = some (.int .i64 pos) ∧ Hid (Same W w')) := by
  subst hmb hmc hL
  exact (getMessage X (h.same hX.2.out)).mono (by rintro e w' ⟨rfl, rfl⟩; exact ⟨rfl, hX⟩)
theorem atAhead (h : Ctx W p K ws pos enc sy v) {mb mc L : Nat} (hmb : mb = K.mb) (hmc : mc = K.mc) (hL : L = K.msg.length) (mode : Nat) (hm : mode ≤ 4) (hlen : K.msg.length ≤ 1000) (hpos : pos ≤ 2000) (hb : ∀ i, i < K.msg.length → nth K.msg i < 128) (X : World) (hX : X.cell? ⟨p, 5, none⟩ = some (.int .i64 pos) ∧ Hid (Same W X)) :
    Calls Tryz.prog 105 #[.slice (some ⟨mb, 0, none⟩) L mc, .int .i64 pos, .int .i64 mode] X fun e w' => ∃ r : Nat, e = .returned (.int .i64 r) ∧ (w'.cell? ⟨p, 5, none⟩ = some (.int .i64 pos) ∧ Hid (Same W w')) ∧ Hid (Look K.msg pos mode r) := by
  subst hmb hmc hL
  have hx := h.same hX.2.out
  have hR : Rd X (some ⟨K.mb, 0, none⟩) K.msg.length (fun j => .int .u8 (nth K.msg j : Nat)) := fun _ => by
    obtain ⟨g, off, cap, e1, hob, hlt, _⟩ := hx.ms.block
    injection e1 with e1 e2 e3
    injection e1 with e1
    injection e1 with e1 e4
    subst e1 e4
    exact ⟨K.mb, 0, rfl, hlt, fun j hj => hx.ms.cells j _ (bys_at hj)⟩
  refine (lookAhead X (some ⟨K.mb, 0, none⟩) K.mc K.msg pos mode hlen hm hpos hb hR).mono ?_
  rintro e w' ⟨r, rfl, hl, hbel⟩
  have hs : Same W w' := Mod.trans (S := fun _ => False) hX.2.out (Same.of_below hbel.out)
  exact ⟨r, rfl, ⟨(h.same hs).cells.2.2.2.2.2.1, Lib.hid hs⟩, hl⟩
theorem atMode (X : World) (h : Ctx W p K ws pos enc sy v) (hX : X.cell? ⟨p, 5, none⟩ = some (.int .i64 pos) ∧ Hid (Same W X)) : Calls Tryz.prog 100 #[.agg #[]] X fun e w' => e = .returned (.int .i64 0) ∧ (w'.cell? ⟨p, 5, none⟩ = some (.int .i64 pos) ∧ Hid (Same W w')) := by
  refine (ascMode X).mono ?_
  rintro e w' ⟨rfl, hbel⟩
  have hs : Same W w' := Mod.trans (S := fun _ => False) hX.2.out (Same.of_below hbel.out)
  exact ⟨rfl, (h.same hs).cells.2.2.2.2.2.1, Lib.hid hs⟩
end
set_option maxRecDepth 100000 in
set_option maxHeartbeats 6400000 in
theorem ascEncode {p : Nat} {K : CK} {ws : List Nat} {pos : Nat} {sy : Option (Nat × Nat)} {v : Value} (w : World) (h : Ctx w p K ws pos (-1) sy v) (hpos : pos < K.msg.length) (hlen : K.msg.length ≤ 1000) (hb : ∀ i, i < K.msg.length → nth K.msg i < 128) (hw : ws.length < 90000) :
    Calls Tryz.prog 99 #[.agg #[], .pointer (some ⟨p, 0, none⟩)] w (AscPost p K ws pos sy v w) := by
  obtain ⟨L, hL⟩ : ∃ L, L = K.msg.length := ⟨_, rfl⟩
  have HL := Lib.hid hL
  have HMB := Lib.hid hb
  rw [← hL] at hpos hlen
  obtain ⟨W, hW⟩ : ∃ W, W = w.alloc (.cells #[] 81) := ⟨_, rfl⟩
  have hS : Same w W := by rw [hW]; exact Mod.alloc (Mod.refl _) _
  have HS := Lib.hid hS
  have HC := Lib.hid (h.same hS)
  obtain ⟨bx, hbx⟩ : ∃ bx, bx = w.heap.size := ⟨_, rfl⟩
  have hbo : W.heap[bx]? = some (.cells #[] 81 (0, 0)) := by rw [hW, hbx]; exact heap_alloc_new w _
  have HBO := Lib.hid hbo
  have HW := Lib.hid hW
  have HBX := Lib.hid hbx
  obtain ⟨c0, c1, c2, c3, c4, c5, c6, c7, c8⟩ := HC.out.cells
  have hp0 : (0 : Int) ≤ (pos : Int) := by omega
  have hp1 : (pos : Int) < (L : Int) := by omega
  have HMC : Hid (∀ i, i < L → W.cell? ⟨K.mb, i, none⟩ = some (.int .u8 (nth K.msg i : Nat))) := Lib.hid (fun i hi => by
    have := HC.out.ms.cells i _ (bys_at (by rw [← HL.out]; exact hi))
    rwa [Nat.zero_add] at this)
  obtain ⟨mb, hmb⟩ : ∃ mb, mb = K.mb := ⟨_, rfl⟩
  obtain ⟨mc, hmc⟩ : ∃ mc, mc = K.mc := ⟨_, rfl⟩
  have HGM : Hid (Calls Tryz.prog 102 #[.pointer (some ⟨p, 0, none⟩)] W.drew fun e w' => e = .returned (.slice (some ⟨mb, 0, none⟩) L mc) ∧ w' = W.drew) := Lib.hid ((getMessage W.drew (HC.out.same (Same.drewN W 1))).mono (by rintro e w' ⟨rfl, rfl⟩; exact ⟨by rw [hmb, hmc, hL], rfl⟩))
  have HDG := Lib.hid (digits K.msg L HL.out pos hpos hlen (fun i hi => HMB.out i (by rw [← HL.out]; exact hi)) W.drew mb mc (fun i hi => by rw [hmb]; exact HMC.out i hi))
  rw [← hmb, ← hmc, ← hL] at c0
  have HMBE := Lib.hid hmb
  have HMCE := Lib.hid hmc
  clear h hb hL hS hW hbx hbo hmb hmc c1 c2 c3 c4 c6 c7 c8
  go_enter Tryz.func99, Tryz.ntmps99
  go_upto_region 1 with (fail)
  rw [← HW.out, ← HBX.out]
  go_still_tail 6, (by kernel_rfl)
  still_call (HGM.out)
  repeat still_step
  change wpList _ _ _ _ _ W.drew
  go_wp2_with fail
  refine HDG.out.mono ?_
  rintro e w' ⟨k, rfl, HK, rfl⟩
  by_cases hk2 : 2 ≤ k
  · skip
    --[dig
    obtain ⟨hd0, hd1, hd2⟩ := HK.out.1 hk2
    have i1 := isD_iff.1 hd1
    have i2 := isD_iff.1 hd2
    have hk2' : (2 : Int) ≤ (k : Int) := by omega
    obtain ⟨W1, hW1⟩ : ∃ W1, W1 = W.drew := ⟨_, rfl⟩
    have HC1 : Hid (Ctx W1 p K ws pos (-1) sy v) := Lib.hid (by rw [hW1]; exact HC.out.same (Same.drewN W 1))
    have HS1 : Hid (Same w W1) := Lib.hid (by rw [hW1]; exact Mod.trans (S := fun _ => False) HS.out (Same.drewN W 1))
    have HM1 : Hid (∀ i, i < L → W1.cell? ⟨mb, i, none⟩ = some (.int .u8 (nth K.msg i : Nat))) := Lib.hid (fun i hi => by rw [hW1, HMBE.out]; exact HMC.out i hi)
    rw [← hW1]
    have hq1 : pos + 1 < L := by rw [HL.out]; exact hd0
    obtain ⟨q, hq⟩ : ∃ q, q = pos + 1 := ⟨_, rfl⟩
    have wq : IntKind.i64.wrap ((pos : Int) + 1) = (q : Int) := by rw [IntKind.wrap_i64]; omega
    have hq0 : (0 : Int) ≤ (q : Int) := by omega
    have hqL : (q : Int) < (L : Int) := by omega
    have d0 := HM1.out pos hpos
    have d1 := HM1.out q (by omega)
    obtain ⟨a, ha⟩ : ∃ a, a = nth K.msg pos := ⟨_, rfl⟩
    obtain ⟨b, hb⟩ : ∃ b, b = nth K.msg (pos + 1) := ⟨_, rfl⟩
    rw [← ha] at d0 i1
    rw [hq, ← hb, ← hq] at d1
    rw [← hb] at i2
    obtain ⟨x, hx⟩ : ∃ x, x = 130 + ((a - 48) * 10 + (b - 48)) := ⟨_, rfl⟩
    have HAD : Hid (∀ n, Calls Tryz.prog 103 #[.int .u8 a, .int .u8 b] (W1.drewN n) fun e w' => e = .returned (.tuple #[.int .u8 x, .nilIface]) ∧ w' = W1.drewN n) := Lib.hid (fun n => (asciiDigits a b i1 i2 (W1.drewN n)).mono (by rintro e w' ⟨rfl, rfl⟩; exact ⟨by rw [hx], rfl⟩))
    have HGM1 : Hid (∀ n, Calls Tryz.prog 102 #[.pointer (some ⟨p, 0, none⟩)] (W1.drewN n) fun e w' => e = .returned (.slice (some ⟨mb, 0, none⟩) L mc) ∧ w' = W1.drewN n) := Lib.hid (fun n => (getMessage (W1.drewN n) (HC1.out.same (Same.drewN W1 n))).mono (by rintro e w' ⟨rfl, rfl⟩; exact ⟨by rw [HMBE.out, HMCE.out, HL.out], rfl⟩))
    obtain ⟨e0, e1, e2, e3, e4, e5, e6, e7, e8⟩ := HC1.out.cells
    rw [← HMBE.out, ← HMCE.out, ← HL.out] at e0
    have HA := Lib.hid ha
    have HB := Lib.hid hb
    have HX := Lib.hid hx
    have HI := Lib.hid (And.intro i1 i2)
    have HD0 := Lib.hid hd0
    have HQ := Lib.hid hq
    clear HK hd1 hd2 i1 i2 hW1 c0 c5 HC HMC HS HGM HDG HW HBX HBO ha hb hx e1 e2 e3 e4 e6 e7 e8 hd0 hq hq1
    go_wp2_with fail
    go_quiet (first | (go_at_call 102; exact Calls.quiet_of_same (HGM1.out _)) | (go_at_call 103; exact Calls.quiet_of_same (HAD.out _)))
    obtain ⟨W2, hW2⟩ : ∃ W2, W2 = W1.drewN nq := ⟨_, rfl⟩
    have HC2 : Hid (Ctx W2 p K ws pos (-1) sy v) := Lib.hid (by rw [hW2]; exact HC1.out.same (Same.drewN W1 nq))
    have HS2 : Hid (Same w W2) := Lib.hid (by rw [hW2]; exact Mod.trans (S := fun _ => False) HS1.out (Same.drewN W1 nq))
    rw [← hW2]
    clear hW2 HGM1 HAD HC1 HS1 HM1 e0 e5 d0 d1
    go_wp2_with fail
    refine (writeWord W2 HC2.out x (by omega)).mono ?_
    rintro e w3 ⟨v3, rfl, HC3, HS3⟩
    have e5 := HC3.out.cells.2.2.2.2.2.1
    have f5 := HC3.out.ar.free 5
    obtain ⟨q2, hq2⟩ : ∃ q2, q2 = pos + 2 := ⟨_, rfl⟩
    have wq2 : IntKind.i64.wrap ((pos : Int) + 2) = (q2 : Int) := by rw [IntKind.wrap_i64]; omega
    have HC4 := Lib.hid (HC3.out.setPos q2)
    have HS4 : Hid (Step p v v3 w (w3.setCell ⟨p, 5, none⟩ (.int .i64 q2))) := Lib.hid (((Step.of_same HS2.out).trans HS3.out).trans (Step.of_p (Mod.set1 w3 p 5 _)))
    have HO : Hid (AscOut K.msg ws pos (ws ++ [x]) q2 (-1)) := Lib.hid (.inl ⟨rfl, .inl ⟨HD0.out, by rw [← HA.out]; exact HI.out.1, by rw [← HB.out]; exact HI.out.2, by rw [HX.out, HA.out, HB.out], hq2⟩⟩)
    clear HC2 HS2 HC3 HS3 hq2
    go_wp2_with fail
    go_ret
    exact ⟨v3, _, q2, -1, rfl, HC4, HS4, HO⟩
    --]dig
  · skip
    --[one
    have hk2' : ((2 : Int) ≤ (k : Int)) = False := by simp; omega
    obtain ⟨W1, hW1⟩ : ∃ W1, W1 = W.drew := ⟨_, rfl⟩
    have HC1 : Hid (Ctx W1 p K ws pos (-1) sy v) := Lib.hid (by rw [hW1]; exact HC.out.same (Same.drewN W 1))
    have HS1 : Hid (Same w W1) := Lib.hid (by rw [hW1]; exact Mod.trans (S := fun _ => False) HS.out (Same.drewN W 1))
    rw [← hW1]
    have hposm : pos < K.msg.length := by rw [← HL.out]; exact hpos
    have HGC := Lib.hid (getCur W1 HC1.out hposm (by omega))
    obtain ⟨c, hc⟩ : ∃ c, c = nth K.msg pos := ⟨_, rfl⟩
    have hc128 : c < 128 := by rw [hc]; exact HMB.out pos hposm
    rw [← hc] at HGC
    have HCE := Lib.hid hc
    have HBO1 : Hid (W1.heap[bx]? = some (.cells #[] 81 (0, 0))) := Lib.hid (by rw [hW1]; exact HBO.out)
    clear HK hk2 hW1 c0 c5 HC HMC HS HGM HDG HW HBX HBO hc
    go_wp2_with fail
    refine HGC.out.mono ?_
    rintro e w' ⟨rfl, m2, rfl⟩
    obtain ⟨W2, hW2⟩ : ∃ W2, W2 = W1.drewN m2 := ⟨_, rfl⟩
    have HC2 : Hid (Ctx W2 p K ws pos (-1) sy v) := Lib.hid (by rw [hW2]; exact HC1.out.same (Same.drewN W1 m2))
    have HS2 : Hid (Same w W2) := Lib.hid (by rw [hW2]; exact Mod.trans (S := fun _ => False) HS1.out (Same.drewN W1 m2))
    rw [← hW2]
    clear hW2 HC1 HS1 HGC
    have HX1 := Lib.hid (fun X hX => atMsg HC2.out HMBE.out HMCE.out HL.out X hX)
    have HX2 := Lib.hid (fun X hX => atMode X HC2.out hX)
    have HX3 := Lib.hid (fun X hX => atAhead HC2.out HMBE.out HMCE.out HL.out 0 (by omega) (by rw [← HL.out]; exact hlen) (by omega) HMB.out X hX)
    have hs0 : (W2.drew.cell? ⟨p, 5, none⟩ = some (.int .i64 pos) ∧ Hid (Same W2 W2.drew)) := ⟨HC2.out.cells.2.2.2.2.2.1, Lib.hid (Same.drewN W2 1)⟩
    go_upto_region 7 with (fail)
    go_cut [9] from 52 to 60 (fun vv wx => ∃ r : Nat, vv = .int .i64 r ∧ Hid (Look K.msg pos 0 r) ∧ Hid (Same W2 wx))
    case first =>
      --[c7
      go_region_held3 (fun w' => w'.cell? ⟨p, 5, none⟩ = some (.int .i64 pos) ∧ Hid (Same W2 w')) (first | exact hs0 | exact hs3 | exact hs4 | exact hs5)
        (first | (go_at_call 102; refine (HX1.out _ (by assumption)).mono ?_; rintro e w3 ⟨rfl, hs3⟩) | (go_at_call 100; refine (HX2.out _ (by assumption)).mono ?_; rintro e w3 ⟨rfl, hs4⟩) | (go_at_call 105; refine (HX3.out _ (by assumption)).mono ?_; rintro e w3 ⟨r, rfl, hs5, HLK⟩))
      all_goals
        go_wp2_with fail
        go_meet
        case rel => exact ⟨r, rfl, HLK, hs5.2⟩
      --]c7
    case rest =>
      obtain ⟨r, rfl, HLK, HSR⟩ := hcut
      obtain ⟨W4, hW4⟩ : ∃ W4, W4 = wc := ⟨_, rfl⟩
      rw [← hW4] at HSR ⊢
      clear hW4 hs0 HX1 HX2 HX3
      have HC4 := Lib.hid (HC2.out.same HSR.out)
      have HS4 : Hid (Same w W4) := Lib.hid (Mod.trans (S := fun _ => False) HS2.out HSR.out)
      clear HC2 HS2 HSR HBO1
      go_wp2_with fail
      refine (ascMode W4).mono ?_
      rintro e W5 ⟨rfl, hb5⟩
      have HC5 := Lib.hid (HC4.out.same (Same.of_below hb5.out))
      have HS5 : Hid (Same w W5) := Lib.hid (Mod.trans (S := fun _ => False) HS4.out (Same.of_below hb5.out))
      clear hb5 HC4 HS4
      --[R1
      have hr4 := HLK.out.r4
      rcases (show r = 0 ∨ r = 1 ∨ r = 2 ∨ r = 3 ∨ r = 4 by omega) with rfl | rfl | rfl | rfl | rfl
      · have n0 : (((0 : Nat) : Int) != 0) = false := by decide
        obtain ⟨x, hx⟩ : ∃ x, x = c + 1 := ⟨_, rfl⟩
        have wx : IntKind.u8.wrap ((c : Int) + 1) = (x : Int) := by rw [IntKind.wrap_u8]; omega
        have HX := Lib.hid hx
        obtain ⟨q, hq⟩ : ∃ q, q = pos + 1 := ⟨_, rfl⟩
        have wq : IntKind.i64.wrap ((pos : Int) + 1) = (q : Int) := by rw [IntKind.wrap_i64]; omega
        have HQ := Lib.hid hq
        clear hx hq
        go_wp2_with fail
        refine (isExt c hc128 _).mono ?_
        rintro e w' ⟨rfl, rfl⟩
        go_wp2_with fail
        refine (writeWord W5 HC5.out x (by omega)).mono ?_
        rintro e w6 ⟨v6, rfl, HC6, HS6⟩
        have e5 := HC6.out.cells.2.2.2.2.2.1
        have f5 := HC6.out.ar.free 5
        have HC7 := Lib.hid (HC6.out.setPos q)
        have HS7 : Hid (Step p v v6 w (w6.setCell ⟨p, 5, none⟩ (.int .i64 q))) := Lib.hid (((Step.of_same HS5.out).trans HS6.out).trans (Step.of_p (Mod.set1 w6 p 5 _)))
        have HO : Hid (AscOut K.msg ws pos (ws ++ [x]) q (-1)) := Lib.hid (.inl ⟨rfl, .inr ⟨by rw [HX.out, HCE.out], HQ.out⟩⟩)
        clear HC5 HS5 HC6 HS6
        go_wp2_with fail
        go_ret
        exact ⟨v6, _, q, -1, rfl, HC7, HS7, HO⟩
      · have n0 : (((1 : Nat) : Int) != 0) = true := by decide
        have n5 : (((1 : Nat) : Int) == 5) = false := by decide
        have n1 : (((1 : Nat) : Int) == 1) = true := by decide
        have n3 : (((1 : Nat) : Int) == 3) = false := by decide
        have n2 : (((1 : Nat) : Int) == 2) = false := by decide
        have n4 : (((1 : Nat) : Int) == 4) = false := by decide
        go_wp2_with fail
        refine (writeWord W5 HC5.out 230 (by omega)).mono ?_
        rintro e w6 ⟨v6, rfl, HC6, HS6⟩
        go_wp2_with fail
        refine (signal w6 HC6.out 1).mono ?_
        rintro e w7 ⟨v7, rfl, HC7, HS7⟩
        have HS8 : Hid (Step p v v7 w w7) := Lib.hid (((Step.of_same HS5.out).trans HS6.out).trans HS7.out)
        have HO : Hid (AscOut K.msg ws pos (ws ++ [230]) pos 1) := Lib.hid (.inr ⟨1, by omega, by omega, rfl, rfl, rfl, HLK.out⟩)
        clear HC5 HS5 HC6 HS6 HS7
        go_wp2_with fail
        go_ret
        exact ⟨v7, _, pos, 1, rfl, HC7, HS8, HO⟩
      · have n0 : (((2 : Nat) : Int) != 0) = true := by decide
        have n5 : (((2 : Nat) : Int) == 5) = false := by decide
        have n1 : (((2 : Nat) : Int) == 1) = false := by decide
        have n3 : (((2 : Nat) : Int) == 3) = false := by decide
        have n2 : (((2 : Nat) : Int) == 2) = true := by decide
        have n4 : (((2 : Nat) : Int) == 4) = false := by decide
        go_wp2_with fail
        refine (writeWord W5 HC5.out 239 (by omega)).mono ?_
        rintro e w6 ⟨v6, rfl, HC6, HS6⟩
        go_wp2_with fail
        refine (signal w6 HC6.out 2).mono ?_
        rintro e w7 ⟨v7, rfl, HC7, HS7⟩
        have HS8 : Hid (Step p v v7 w w7) := Lib.hid (((Step.of_same HS5.out).trans HS6.out).trans HS7.out)
        have HO : Hid (AscOut K.msg ws pos (ws ++ [239]) pos 2) := Lib.hid (.inr ⟨2, by omega, by omega, rfl, rfl, rfl, HLK.out⟩)
        clear HC5 HS5 HC6 HS6 HS7
        go_wp2_with fail
        go_ret
        exact ⟨v7, _, pos, 2, rfl, HC7, HS8, HO⟩
      · have n0 : (((3 : Nat) : Int) != 0) = true := by decide
        have n5 : (((3 : Nat) : Int) == 5) = false := by decide
        have n1 : (((3 : Nat) : Int) == 1) = false := by decide
        have n3 : (((3 : Nat) : Int) == 3) = true := by decide
        have n2 : (((3 : Nat) : Int) == 2) = false := by decide
        have n4 : (((3 : Nat) : Int) == 4) = false := by decide
        go_wp2_with fail
        refine (writeWord W5 HC5.out 238 (by omega)).mono ?_
        rintro e w6 ⟨v6, rfl, HC6, HS6⟩
        go_wp2_with fail
        refine (signal w6 HC6.out 3).mono ?_
        rintro e w7 ⟨v7, rfl, HC7, HS7⟩
        have HS8 : Hid (Step p v v7 w w7) := Lib.hid (((Step.of_same HS5.out).trans HS6.out).trans HS7.out)
        have HO : Hid (AscOut K.msg ws pos (ws ++ [238]) pos 3) := Lib.hid (.inr ⟨3, by omega, by omega, rfl, rfl, rfl, HLK.out⟩)
        clear HC5 HS5 HC6 HS6 HS7
        go_wp2_with fail
        go_ret
        exact ⟨v7, _, pos, 3, rfl, HC7, HS8, HO⟩
      · have n0 : (((4 : Nat) : Int) != 0) = true := by decide
        have n5 : (((4 : Nat) : Int) == 5) = false := by decide
        have n1 : (((4 : Nat) : Int) == 1) = false := by decide
        have n3 : (((4 : Nat) : Int) == 3) = false := by decide
        have n2 : (((4 : Nat) : Int) == 2) = false := by decide
        have n4 : (((4 : Nat) : Int) == 4) = true := by decide
        go_wp2_with fail
        refine (writeWord W5 HC5.out 240 (by omega)).mono ?_
        rintro e w6 ⟨v6, rfl, HC6, HS6⟩
        go_wp2_with fail
        refine (signal w6 HC6.out 4).mono ?_
        rintro e w7 ⟨v7, rfl, HC7, HS7⟩
        have HS8 : Hid (Step p v v7 w w7) := Lib.hid (((Step.of_same HS5.out).trans HS6.out).trans HS7.out)
        have HO : Hid (AscOut K.msg ws pos (ws ++ [240]) pos 4) := Lib.hid (.inr ⟨4, by omega, by omega, rfl, rfl, rfl, HLK.out⟩)
        clear HC5 HS5 HC6 HS6 HS7
        go_wp2_with fail
        go_ret
        exact ⟨v7, _, pos, 4, rfl, HC7, HS8, HO⟩
      --]R1
    --]one
end Go.Proofs.YtcadknfcahmdcaaGreat
