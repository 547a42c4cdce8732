/-
  C40Encoder with encoder.textEncodeChar: backtrackOneCharacter, encode, walked (printed by genDXA.py). No condition beyond the bounds that each theorem states.
-/
import Derived.Test.YtcadknfcahmdcaaGreatDXA
import Derived.Deep.DeepCutAuto
import Derived.Deep.LoopGhost
import Derived.Deep.RegionHeld3
namespace Go.Proofs.YtcadknfcahmdcaaGreat
open Go.RowKit Go.Qz Go.Qz.DF
open Go.Qz.DV hiding val run part
set_option linter.unusedVariables false

/-- Behind a byte that is given back. -/
def BackPost2 (p : Nat) (K : CK) (ws : List Nat) (q : Nat) (enc : Int) (v0 : Value) (w0 : World) (cb F g off n cap base rl : Nat) (X : List Nat) (e : Ending) (w' : World) : Prop := ∃ (v rv : Value) (Rm : List Nat),
  e = .returned (.tuple #[.int .i64 (ev 2 (nth K.msg q)).length, .slice (some ⟨g, off, none⟩) n cap, rv]) ∧ Hid (Ctx w' p K ws q enc none v) ∧ Hid (Buf w' K v base (.slice (some ⟨g, off, none⟩) n cap) (X.take n)) ∧ Hid (Buf w' K v base rv Rm) ∧ rv.ownBlock ≠ some g ∧ Hid (Step p v0 v w0 w') ∧ Hid (EncA w' cb 2 F) ∧ Rm.length ≤ rl + 2
set_option maxRecDepth 100000 in
set_option maxHeartbeats 3200000 in
theorem back2 {p : Nat} {K : CK} {ws : List Nat} {q : Nat} {enc : Int} {sy : Option (Nat × Nat)} {v v0 : Value} (w0 w : World) (h : Ctx w p K ws (q + 1) enc sy v) (hs : Step p v0 v w0 w) (cb : Nat) (hE : EncA w cb 2 53) (hq : q < K.msg.length) (hlen : K.msg.length ≤ 1000) (hc128 : nth K.msg q < 128) (g off n nl lx cap base : Nat) (hbase : base = w0.heap.size) (X : List Nat) (hn : n = X.length) (hnl : nl + lx = n) (hnb : n ≤ 3000) (hb : Buf w K v base (.slice (some ⟨g, off, none⟩) n cap) X) (rv : Value) (Rm : List Nat) (hr : Buf w K v base rv Rm) (hne : rv.ownBlock ≠ some g) (hRm : Rm.length ≤ 9000) :
    Calls Tryz.prog 135 #[.pointer (some ⟨cb, 0, none⟩), .pointer (some ⟨p, 0, none⟩), .slice (some ⟨g, off, none⟩) n cap, rv, .int .i64 lx] w (BackPost2 p K ws q enc v0 w0 cb 53 g off nl cap base Rm.length X) := by
  have hcap : n ≤ cap := by
    obtain ⟨g', off', cap', cur, e1, hb', hh, h1, h2, _⟩ := hb.off
    injection e1 with e1 e2 e3
    omega
  have HB := Lib.hid hb
  have HRB := Lib.hid hr
  have HSX := Lib.hid hs
  have HEX := Lib.hid hE
  have HBASE := Lib.hid hbase
  have HN := Lib.hid hn
  have HNE := Lib.hid hne
  have HC := Lib.hid h
  obtain ⟨q1, hq1⟩ : ∃ q1, q1 = q + 1 := ⟨_, rfl⟩
  rw [← hq1] at HC
  have wq : IntKind.i64.wrap ((q1 : Int) - 1) = (q : Int) := by rw [IntKind.wrap_i64]; omega
  have wn : IntKind.i64.wrap ((n : Int) - (lx : Int)) = (nl : Int) := by rw [IntKind.wrap_i64]; omega
  have hnl0 : (0 : Int) ≤ (nl : Int) := by omega
  have hnl1 : (nl : Int) ≤ (cap : Int) := by omega
  have hnln : nl ≤ n := by omega
  obtain ⟨c0, c1, c2, c3, c4, c5, c6, c7, c8⟩ := HC.out.cells
  have f5 := HC.out.ar.free 5
  have HC1 := Lib.hid (HC.out.setPos q)
  have hst := Mod.set1 w p 5 (.int .i64 q)
  obtain ⟨w1, hw1⟩ : ∃ w1, w1 = w.setCell ⟨p, 5, none⟩ (.int .i64 q) := ⟨_, rfl⟩
  rw [← hw1] at HC1 hst
  have HS1 : Hid (Step p v0 v w0 w1) := Lib.hid (HSX.out.trans (Step.of_p hst))
  have HB1 := Lib.hid (HB.out.step HC.out (Step.of_p hst))
  have HRB1 := Lib.hid (HRB.out.step HC.out (Step.of_p hst))
  have HE1 := Lib.hid (HEX.out.step HC.out (Step.of_p hst))
  have HW1 := Lib.hid hw1
  have HGC := Lib.hid (getCur w1 HC1.out hq (by omega))
  obtain ⟨c, hc⟩ : ∃ c, c = nth K.msg q := ⟨_, rfl⟩
  rw [← hc] at HGC hc128
  have HCE := Lib.hid hc
  unfold BackPost2
  rw [← hc]
  obtain ⟨rg, roff, rcap, hrv⟩ := HRB.out.val
  obtain ⟨rn, hrn⟩ : ∃ rn, rn = Rm.length := ⟨_, rfl⟩
  rw [← hrn] at hrv
  subst hrv
  clear h hs hE hbase hn hb hr hne hq1 hst hw1 hc c0 c1 c2 c3 c4 c6 c7 c8 HB HRB HSX HEX HC hnl
  go_enter Tryz.func135, Tryz.ntmps135
  go_wp2_with fail
  rw [← HW1.out]
  clear HW1 c5 f5
  refine HGC.out.mono ?_
  rintro e w' ⟨rfl, mq, rfl⟩
  obtain ⟨w2, hw2⟩ : ∃ wz, wz = w1.drewN mq := ⟨_, rfl⟩
  have HC2 := Lib.hid (HC1.out.same (Same.drewN w1 mq))
  have HS2 : Hid (Step p v0 v w0 (w1.drewN mq)) := Lib.hid (HS1.out.trans (Step.of_same (Same.drewN w1 mq)))
  have HB2 := Lib.hid (HB1.out.same (Same.drewN w1 mq))
  have HRB2 := Lib.hid (HRB1.out.same (Same.drewN w1 mq))
  have HE2 := Lib.hid (HE1.out.same (Same.drewN w1 mq))
  rw [← hw2] at HC2 HS2 HB2 HRB2 HE2 ⊢
  clear hw2 HC1 HS1 HB1 HRB1 HE1 HGC
  have ce1 := Arr.cell? HE2.out 1
  simp only [List.getElem?_cons_zero, List.getElem?_cons_succ] at ce1
  have hro := HRB2.out.off
  have HCH := Lib.hid (textChar c hc128 Rm (by omega) base _ w2 hro HRB2.out.bb)
  have HRL := Lib.hid hrn
  rw [← hrn] at hRm
  clear hro hrn
  go_wp2_with fail
  refine HCH.out.mono ?_
  rintro e w3 ⟨rv3, rfl, HO3, HG3⟩
  have hev := ev_len (m := 2) (by decide) hc128
  obtain ⟨lc, hlc⟩ : ∃ lc, lc = (ev 2 c).length := ⟨_, rfl⟩
  rw [← hlc] at hev ⊢
  have HLC := Lib.hid hlc
  obtain ⟨hrb3, hc3⟩ := HRB2.out.grew HC2.out HG3.out HO3.out
  obtain ⟨hb3, hne3⟩ := HB2.out.other HRB2.out HNE.out HG3.out
  have HC3 := Lib.hid hc3
  have HRB3 := Lib.hid hrb3
  have HB3 := Lib.hid hb3
  have HNE3 := Lib.hid hne3
  have HE3 := Lib.hid (HE2.out.grew HRB2.out HG3.out)
  have HS3 : Hid (Step p v0 v w0 w3) := Lib.hid (HS2.out.buf (HBASE.out ▸ HRB2.out) HG3.out)
  have HRS := Lib.hid (resetSym w3 HC3.out)
  have HR3L : Hid ((Rm ++ ev 2 c).length ≤ Rm.length + 2) := Lib.hid (by rw [List.length_append, ← HLC.out]; omega)
  clear hlc hrb3 hc3 hb3 hne3 HC2 HRB2 HB2 HS2 HE2 HCH HO3 HG3 ce1 HNE
  go_wp2_with fail
  refine HRS.out.mono ?_
  rintro e w4 ⟨v4, rfl, HC4, HS4⟩
  have HS5 : Hid (Step p v0 v4 w0 w4) := Lib.hid (HS3.out.trans HS4.out)
  have HB5 := Lib.hid ((HB3.out.step HC3.out HS4.out).take HN.out hnln)
  have HRB5 := Lib.hid (HRB3.out.step HC3.out HS4.out)
  have HE5 := Lib.hid (HE3.out.step HC3.out HS4.out)
  clear HC3 HB3 HRB3 HE3 HS3 HS4 HRS
  go_wp2_with fail
  refine bodyPost_ret (v := .tuple #[.int .i64 lc, .slice (some ⟨g, off, none⟩) nl cap, rv3]) (by simp [results, Tryz.results135, go_sem]) rfl ?_
  exact ⟨v4, rv3, _, by rw [HLC.out], HC4, HB5, HRB5, HNE3.out, HS5, HE5, HR3L.out⟩
set_option maxRecDepth 100000 in
set_option maxHeartbeats 12800000 in
theorem enc2 {p : Nat} {K : CK} {ws : List Nat} {pos : Nat} {sy : Option (Nat × Nat)} {v0 : Value} (w0 : World) (h : Ctx w0 p K ws pos (-1) sy v0) (cb : Nat) (hE : EncA w0 cb 2 53) (T : Nat) (hT : T + K.skip = K.msg.length) (hlen : K.msg.length ≤ 1000) (hmb : ∀ i, i < K.msg.length → nth K.msg i < 128) (hsh : K.sh ≤ 2) (hpT : pos + 2 < T) (hsy : SyOk K.sh ws.length sy) (hw : ws.length ≤ 2 * pos + 1) (hcm : 2 * T + 6 ≤ capMost K.sh) :
    Calls Tryz.prog 133 #[.pointer (some ⟨cb, 0, none⟩), .pointer (some ⟨p, 0, none⟩)] w0 (C40Post p K ws pos T 2 v0 w0) := by
  have hm0 := fun X => run_make0 (P := Tryz.prog) 24 5 (.int .u8 0) 1 Tryz.underlying24 Tryz.infoBy rfl (by decide) 0 (by omega) .i64 .i64 0 rfl X
  obtain ⟨base, hbase⟩ : ∃ base, base = w0.heap.size := ⟨_, rfl⟩
  obtain ⟨W, hW⟩ : ∃ W, W = w0.alloc (.cells (zeros 0 (.int .u8 0)) 5) := ⟨_, rfl⟩
  have hS : Same w0 W := by rw [hW]; exact Mod.alloc (Mod.refl _) _
  have HC0 := Lib.hid (h.same hS)
  have HE0 := Lib.hid (hE.same hS)
  have HS0 : Hid (Step p v0 v0 w0 W) := Lib.hid (Step.of_same hS)
  have HB0 : Hid (Buf W K v0 base (.slice (some ⟨base, 0, none⟩) 0 0) []) := Lib.hid ⟨by
      rw [hW, hbase]; exact off_make0 w0 5 (.int .u8 0) 0 w0.heap.size (Nat.le_refl _) (by unfold maxLen; omega), by
      obtain ⟨g, off, cap, _, hob, hlt, _⟩ := h.cw.block
      rw [hob]; intro e; have e2 : base = g := Option.some.inj e; omega, by
      obtain ⟨g, off, cap, e3, hob, hlt, _⟩ := h.ms.block
      injection e3 with e3
      injection e3 with e3
      injection e3 with e3
      intro e; have e2 : base = K.mb := Option.some.inj e; omega, by rw [hbase]; exact Mod.size (S := fun _ => False) hS⟩
  have HBASE := Lib.hid hbase
  have HW := Lib.hid hW
  have HTT := Lib.hid hT
  have HMB := Lib.hid hmb
  have HSY := Lib.hid hsy
  have HSH := Lib.hid hsh
  have HPT := Lib.hid hpT
  have HCM := Lib.hid hcm
  have HLEN := Lib.hid hlen
  obtain ⟨wl, hwl⟩ : ∃ wl, wl = ws.length := ⟨_, rfl⟩
  have HWL := Lib.hid hwl
  have HWB : Hid (wl ≤ 2 * pos + 1) := Lib.hid (by omega)
  have HCB : Hid (capMost K.sh ≤ 1304) := Lib.hid (by unfold capMost; split <;> omega)
  have hTb : T ≤ 1000 := by omega
  clear h hE hS hbase hW hT hmb hsy hsh hw hwl hpT hcm
  go_enter Tryz.func133, Tryz.ntmps133
  go_wp2_with fail
  rw [← HW.out, ← HBASE.out]
  clear HW
  go_loopg [5] (T - pos) (fun k b wr => ∃ (q g off n cap : Nat) (sy' : Option (Nat × Nat)) (v : Value), k = T - q ∧ b = .slice (some ⟨g, off, none⟩) n cap ∧ pos ≤ q ∧ q < T ∧ Hid (n = (evs 2 (DV.part K.msg pos q)).length) ∧ Hid (Buf wr K v base (.slice (some ⟨g, off, none⟩) n cap) (evs 2 (DV.part K.msg pos q))) ∧ Hid (Ctx wr p K ws q (-1) sy' v) ∧ Hid (Step p v0 v w0 wr) ∧ Hid (EncA wr cb 2 53) ∧ Hid (SyOk K.sh (wl + 2 * (n / 3)) sy'))
  case atStart => exact ⟨pos, base, 0, 0, 0, sy, v0, rfl, rfl, Nat.le_refl _, by have := HPT.out; omega, Lib.hid (by rw [part_self]; rfl), by rw [part_self]; exact HB0, HC0, HS0, HE0, Lib.hid (by rw [HWL.out]; exact HSY.out)⟩
  case round =>
    obtain ⟨wo, hwo⟩ : ∃ wo, wo = wr := ⟨_, rfl⟩
    rw [← hwo] at hrel ⊢
    clear hwo HB0 HC0 HS0 HE0 HSY
    obtain ⟨q, g, off, n, cap, sy', v, hgk, rfl, hq0, hqT, HN, HB, HC, HS, HE, HSY⟩ := hrel
    have HGK := Lib.hid hgk
    have HHM := Lib.hid (hasMore wo HC.out T HTT.out (by omega))
    have hqT' : decide (q < T) = true := by simp [hqT]
    have hqm : q < K.msg.length := by have := HTT.out; omega
    clear hgk
    go_wp2_with fail
    refine HHM.out.mono ?_
    rintro e w' ⟨rfl, mq, rfl⟩
    obtain ⟨w1, hw1⟩ : ∃ wz, wz = wo.drewN mq := ⟨_, rfl⟩
    have HC1 := Lib.hid (HC.out.same (Same.drewN wo mq))
    have HS1 : Hid (Step p v0 v w0 (wo.drewN mq)) := Lib.hid (HS.out.trans (Step.of_same (Same.drewN wo mq)))
    have HB1 := Lib.hid (HB.out.same (Same.drewN wo mq))
    have HE1 := Lib.hid (HE.out.same (Same.drewN wo mq))
    rw [← hw1] at HC1 HS1 HB1 HE1 ⊢
    clear hw1 HC HS HB HE HHM
    obtain ⟨c, hc⟩ : ∃ c, c = nth K.msg q := ⟨_, rfl⟩
    have HGC := Lib.hid (getCur w1 HC1.out hqm (by omega))
    have hc128 : c < 128 := by rw [hc]; exact HMB.out q hqm
    rw [← hc] at HGC
    have HCE := Lib.hid hc
    clear hc
    go_wp2_with fail
    refine HGC.out.mono ?_
    rintro e w' ⟨rfl, mq, rfl⟩
    obtain ⟨w2, hw2⟩ : ∃ wz, wz = w1.drewN mq := ⟨_, rfl⟩
    have HC2 := Lib.hid (HC1.out.same (Same.drewN w1 mq))
    have HS2 : Hid (Step p v0 v w0 (w1.drewN mq)) := Lib.hid (HS1.out.trans (Step.of_same (Same.drewN w1 mq)))
    have HB2 := Lib.hid (HB1.out.same (Same.drewN w1 mq))
    have HE2 := Lib.hid (HE1.out.same (Same.drewN w1 mq))
    rw [← hw2] at HC2 HS2 HB2 HE2 ⊢
    clear hw2 HC1 HS1 HB1 HE1 HGC
    obtain ⟨q1, hq1⟩ : ∃ q1, q1 = q + 1 := ⟨_, rfl⟩
    have wq : Hid ((q : Int) + 1 = (q1 : Int)) := Lib.hid (by omega)
    have c5 := HC2.out.cells.2.2.2.2.2.1
    have f5 := HC2.out.ar.free 5
    have HC3 := Lib.hid (HC2.out.setPos q1)
    have hst := Mod.set1 w2 p 5 (.int .i64 q1)
    obtain ⟨w3, hw3⟩ : ∃ wz, wz = w2.setCell ⟨p, 5, none⟩ (.int .i64 q1) := ⟨_, rfl⟩
    rw [← hw3] at HC3 hst
    have HS3 : Hid (Step p v0 v w0 w3) := Lib.hid (HS2.out.trans (Step.of_p hst))
    have HB3 := Lib.hid (HB2.out.step HC2.out (Step.of_p hst))
    have HE3 := Lib.hid (HE2.out.step HC2.out (Step.of_p hst))
    have ce1' := Arr.cell? HE3.out 1
    simp only [List.getElem?_cons_zero, List.getElem?_cons_succ] at ce1'
    have HW3 := Lib.hid hw3
    have HQ1 := Lib.hid hq1
    have HNL : Hid (n ≤ 2 * (q - pos)) := Lib.hid (by
      have := evs_len (mode := 2) (by decide) (DV.part K.msg pos q) (part_mem fun i _ _ h => HMB.out i h)
      rw [part_len (by omega)] at this
      have := HN.out; omega)
    have hro := HB3.out.off
    rw [← HN.out] at hro
    have HCH := Lib.hid (textChar c hc128 (evs 2 (DV.part K.msg pos q)) (by have := HN.out; have := HNL.out; omega) base (.slice (some ⟨g, off, none⟩) n cap) w3 HB3.out.off HB3.out.bb)
    clear hst hw3 hro HS2 HB2 HE2 hq1
    go_upto_region 5 with (fail)
    rw [wq.out, ← HW3.out]
    clear HC2 c5 f5
    go_wp2_with fail
    refine HCH.out.mono ?_
    rintro e w4 ⟨bv, rfl, HO4, HG4⟩
    have e1 : evs 2 (DV.part K.msg pos q) ++ ev 2 c = evs 2 (DV.part K.msg pos q1) := by rw [HCE.out, HQ1.out]; exact (evs_snoc (by decide) HMB.out hq0 hqm).symm
    rw [e1] at HO4
    obtain ⟨hb4, hc4⟩ := HB3.out.grew HC3.out HG4.out HO4.out
    obtain ⟨g4, off4, cap4, hv4⟩ := hb4.val
    obtain ⟨V, hV⟩ : ∃ V, V = evs 2 (DV.part K.msg pos q1) := ⟨_, rfl⟩
    rw [← hV] at hb4 hv4
    obtain ⟨n4, hn4⟩ : ∃ n4, n4 = V.length := ⟨_, rfl⟩
    rw [← hn4] at hv4
    subst hv4
    have HB4 := Lib.hid hb4
    have HC4 := Lib.hid hc4
    have HN4 := Lib.hid hn4
    have HVE := Lib.hid hV
    have HE4 := Lib.hid (HE3.out.grew HB3.out HG4.out)
    have HS4 : Hid (Step p v0 v w0 w4) := Lib.hid (HS3.out.buf (HBASE.out ▸ HB3.out) HG4.out)
    obtain ⟨lc, hlc⟩ : ∃ lc, lc = (ev 2 c).length := ⟨_, rfl⟩
    rw [← hlc]
    have HLC := Lib.hid hlc
    have hlb := ev_len (m := 2) (by decide) hc128
    rw [← hlc] at hlb
    have hq1 := HQ1.out
    have hn4e : n4 = n + lc := by rw [hn4, hV, ← e1, List.length_append, ← HN.out, ← hlc]
    have hn4b : n4 ≤ 2 * (q1 - pos) := by have := HNL.out; omega
    have hn4s : n ≤ n4 := by omega
    clear wq e1 hb4 hc4 hn4 hV hlc HB3 HC3 HE3 HS3 HCH HO4 HG4 ce1' HW3 hn4e
    -- the symbol
    obtain ⟨n3, hn3⟩ : ∃ n3, n3 = n4 / 3 := ⟨_, rfl⟩
    obtain ⟨u, hu⟩ : ∃ u, u = n3 * 2 := ⟨_, rfl⟩
    obtain ⟨cur, hcu⟩ : ∃ cur, cur = wl + u := ⟨_, rfl⟩
    have q1' : IntKind.i64.wrap ((n4 : Int) / 3) = (n3 : Int) := by rw [IntKind.wrap_i64]; omega
    have q2' : (n4 : Int).tdiv 3 = (n3 : Int) := by rw [Int.tdiv_eq_ediv_of_nonneg (by omega)]; omega
    have q2a : (n4 : Int) / 3 = (n3 : Int) := by omega
    have q3' : IntKind.i64.wrap ((n3 : Int) * 2) = (u : Int) := by rw [IntKind.wrap_i64]; omega
    have hcmx : cur + 2 * (T - q1) + 4 ≤ capMost K.sh := by have := HWB.out; have := HCM.out; have := HQ1.out; omega
    have hcurb : cur ≤ 5000 := by have := HCB.out; omega
    have q5' : IntKind.i64.wrap ((wl : Int) + (u : Int)) = (cur : Int) := by rw [IntKind.wrap_i64]; omega
    have HGN := Lib.hid (getCount w4 HC4.out)
    rw [← HWL.out] at HGN
    have HU := Lib.hid (updBy w4 HC4.out cur HSH.out (by omega))
    rw [HSY.out.upd (show wl + 2 * (n / 3) ≤ cur by omega)] at HU
    obtain ⟨d, hd⟩ : ∃ d, d = capFor K.sh cur := ⟨_, rfl⟩
    rw [← hd] at HU
    have hcap := capFor_mem HSH.out (show cur ≤ mostOf K.sh by have := cap_le_most K.sh; omega)
    have hcapl := capFor_le HSH.out (show cur ≤ mostOf K.sh by have := cap_le_most K.sh; omega)
    rw [← hd] at hcap hcapl
    have hmo : mostOf K.sh ≤ 1558 := by unfold mostOf; split <;> omega
    obtain ⟨a, ha⟩ : ∃ a, a = d - cur := ⟨_, rfl⟩
    have q6' : IntKind.i64.wrap ((d : Int) - (cur : Int)) = (a : Int) := by rw [IntKind.wrap_i64]; omega
    have hdb : d ≤ 1558 := by omega
    have hda : d = cur + a := by omega
    have HD := Lib.hid hd
    have HDA := Lib.hid hda
    have HN3 := Lib.hid (And.intro hn3 (And.intro hu hcu))
    have HCMX := Lib.hid hcmx
    clear hn3 hu hcu hd ha hcap hcapl hmo hda hcmx
    go_wp2_with fail
    refine HGN.out.mono ?_
    rintro e w' ⟨rfl, rfl⟩
    go_wp2_with fail
    refine HU.out.mono ?_
    rintro e w5 ⟨sq, rfl, HC5, HSu⟩
    have HB5 := Lib.hid (HB4.out.step HC4.out HSu.out)
    have HE5 := Lib.hid (HE4.out.step HC4.out HSu.out)
    have HS5 : Hid (Step p v0 v w0 w5) := Lib.hid (HS4.out.trans HSu.out)
    have HGS := Lib.hid (getSym w5 sq d HC5.out)
    have HGP := Lib.hid (getCap w5 sq d HC5.out)
    clear HB4 HC4 HE4 HS4 HSu HU HGN HSY
    go_wp2_with fail
    refine HGS.out.mono ?_
    rintro e w' ⟨rfl, rfl⟩
    go_wp2_with fail
    refine HGP.out.mono ?_
    rintro e w' ⟨rfl, rfl⟩
    have HHM := Lib.hid (hasMore w5 HC5.out T HTT.out (by omega))
    obtain ⟨hmv, hhmv⟩ : ∃ b, b = decide (q1 < T) := ⟨_, rfl⟩
    rw [← hhmv] at HHM
    have HMV := Lib.hid hhmv
    clear hhmv
    go_wp2_with fail
    refine HHM.out.mono ?_
    rintro e w' ⟨rfl, mq, rfl⟩
    obtain ⟨w6, hw6⟩ : ∃ wz, wz = w5.drewN mq := ⟨_, rfl⟩
    have HC6 := Lib.hid (HC5.out.same (Same.drewN w5 mq))
    have HS6 : Hid (Step p v0 v w0 (w5.drewN mq)) := Lib.hid (HS5.out.trans (Step.of_same (Same.drewN w5 mq)))
    have HB6 := Lib.hid (HB5.out.same (Same.drewN w5 mq))
    have HE6 := Lib.hid (HE5.out.same (Same.drewN w5 mq))
    rw [← hw6] at HC6 HS6 HB6 HE6 ⊢
    clear hw6 HC5 HS5 HB5 HE5 HHM HGS HGP
    cases hmv
    rotate_left
    · have hend : q1 < T := by have := HMV.out; simpa using this.symm
      clear HMV
      --[mid
      obtain ⟨r4, hr4⟩ : ∃ r, r = n4 % 3 := ⟨_, rfl⟩
      have q4' : (n4 : Int).tmod 3 = (r4 : Int) := by rw [Int.tmod_eq_emod_of_nonneg (by omega)]; omega
      have q4a : (n4 : Int) % 3 = (r4 : Int) := by omega
      have HR4 := Lib.hid hr4
      have HSY6 : Hid (SyOk K.sh (wl + 2 * (n4 / 3)) (some (sq, d))) := Lib.hid (.inr ⟨sq, cur, by rw [HD.out], by have := HN3.out; omega⟩)
      have HKK : Hid (T - q1 < gk) := Lib.hid (by have := HGK.out; omega)
      have hpq1 : pos ≤ q1 := by have := HQ1.out; omega
      clear hr4
      by_cases hr0 : r4 = 0
      · have d0 : ((r4 : Int) == 0) = true := by simp [hr0]
        have HV3 : Hid (V.length % 3 = 0) := Lib.hid (by rw [← HN4.out, ← HR4.out]; exact hr0)
        clear hr0
        have hq2000 : q1 ≤ 2000 := by omega
        obtain ⟨mb, hmb⟩ : ∃ mb, mb = K.mb := ⟨_, rfl⟩
        obtain ⟨mc, hmc⟩ : ∃ mc, mc = K.mc := ⟨_, rfl⟩
        obtain ⟨L, hL⟩ : ∃ L, L = K.msg.length := ⟨_, rfl⟩
        have HX1 := Lib.hid (fun X hX => atMsg HC6.out hmb hmc hL X hX)
        have HX2 := Lib.hid (fun X hX => atEnc (p := p) (K := K) (ws := ws) (pos := q1) (enc := -1) (sy := none) (v := v) HE6.out X hX)
        have HX3 := Lib.hid (fun X hX => atAhead HC6.out hmb hmc hL 2 (by omega) HLEN.out hq2000 HMB.out X hX)
        have hs0 : (w6.drew.cell? ⟨p, 5, none⟩ = some (.int .i64 q1) ∧ Hid (Same w6 w6.drew)) := ⟨HC6.out.cells.2.2.2.2.2.1, Lib.hid (Same.drewN w6 1)⟩
        clear hq1
        have HMBE := Lib.hid hmb
        have HMCE := Lib.hid hmc
        have HLE := Lib.hid hL
        clear hmb hmc hL
        go_upto_region 21 with (fail)
        go_cut [14] from 106 to 114 (fun vv wx => ∃ r : Nat, vv = .int .i64 r ∧ Hid (Same w6 wx))
        case first =>
          --[c21
          have HGM : Hid (Calls Tryz.prog 102 #[.pointer (some ⟨p, 0, none⟩)] w6.drew fun e w' => e = .returned (.slice (some ⟨mb, 0, none⟩) L mc) ∧ w' = w6.drew) := Lib.hid ((getMessage w6.drew (HC6.out.same (Same.drewN w6 1))).mono (by rintro e w' ⟨rfl, rfl⟩; exact ⟨by rw [HMBE.out, HMCE.out, HLE.out], rfl⟩))
          have HEM : Hid (Calls Tryz.prog 134 #[.pointer (some ⟨cb, 0, none⟩)] w6.drew fun e w' => e = .returned (.int .i64 2) ∧ w' = w6.drew) := Lib.hid ((encMode w6.drew (HE6.out.same (Same.drewN w6 1))).mono (by rintro e w' ⟨rfl, rfl⟩; exact ⟨rfl, rfl⟩))
          have c5 := HC6.out.cells.2.2.2.2.2.1
          have HLA : Hid (Calls Tryz.prog 105 #[.slice (some ⟨mb, 0, none⟩) L mc, .int .i64 q1, .int .i64 2] w6.drew fun e w' => ∃ r : Nat, e = .returned (.int .i64 r) ∧ Hid (Same w6 w')) := Lib.hid ((HX3.out w6.drew hs0).mono (by rintro e w' ⟨r, rfl, h, _⟩; exact ⟨r, rfl, h.2⟩))
          clear HX1 HX2 HX3 hs0 q1' q2' q2a q3' q5' q6' q4' q4a d0 hqT' hn4b hn4s hdb hcurb hq2000 hpq1 hm0 hlb hq0 hqT hqm hc128
          go_still_tail 8, (by kernel_rfl)
          first | still_call (HGM.out) | (still_step; still_call (HGM.out))
          repeat still_step
          still_call (HEM.out)
          repeat still_step
          change wpList _ _ _ _ _ w6.drew
          go_wp2_with fail
          refine HLA.out.mono ?_
          rintro e w9 ⟨r, rfl, hs9⟩
          go_wp2_with fail
          go_meet
          case rel => exact ⟨r, rfl, hs9⟩
          --]c21
        case rest =>
          obtain ⟨r, rfl, HSR⟩ := hcut
          obtain ⟨w7, hw7⟩ : ∃ wz, wz = wc := ⟨_, rfl⟩
          rw [← hw7] at HSR ⊢
          clear hw7 hs0 HX1 HX2 HX3
          have HC7 := Lib.hid (HC6.out.same HSR.out)
          have HS7 : Hid (Step p v0 v w0 w7) := Lib.hid (HS6.out.trans (Step.of_same HSR.out))
          have HB7 := Lib.hid (HB6.out.same HSR.out)
          have HE7 := Lib.hid (HE6.out.same HSR.out)
          clear HC6 HS6 HB6 HE6 HSR
          go_wp2_with fail
          refine (encMode w7 HE7.out).mono ?_
          rintro e w' ⟨rfl, rfl⟩
          by_cases hrm : r = 2
          · have n0 : ((r : Int) != 2) = false := by simp; omega
            clear hrm
            go_wp2_with fail
            go_roundg (T - q1)
            case measure => have := HKK.out; omega
            case rel => exact ⟨q1, g4, off4, n4, cap4, _, v, rfl, rfl, hpq1, hend, HVE.out ▸ HN4, HVE.out ▸ HB7, HC7, HS7, HE7, HSY6⟩
          · have n0 : ((r : Int) != 2) = true := by simp; omega
            clear hrm
            go_wp2_with fail
            refine (signal w7 HC7.out 0).mono ?_
            rintro e w8 ⟨v8, rfl, HC8, HSs⟩
            have HS8 : Hid (Step p v0 v8 w0 w8) := Lib.hid (HS7.out.trans HSs.out)
            have HB8 := Lib.hid (HB7.out.step HC7.out HSs.out)
            have HCALL := Lib.hid (eodCall (m := 2) (pos := pos) w0 w8 HC8.out HS8.out T HTT.out HLEN.out HSH.out (by have := HQ1.out; omega) (by omega) V (by rw [HVE.out]; exact evs_lt (by decide) (part_mem fun i _ _ h => HMB.out i h)) g4 off4 n4 cap4 base HBASE.out HN4.out (by omega) (by have := HWB.out; rw [← HWL.out]; omega) HB8.out (by rw [← HWL.out]; have := HN3.out; have := HCMX.out; omega) (by rw [← HWL.out]; exact HSY6.out)
              (fun a' ha' => ⟨fun e => by have := HV3.out; omega, by rw [HVE.out]; exact c40_mid (by have := HQ1.out; omega) hend (by rw [← HVE.out]; exact HV3.out)⟩))
            clear HC7 HS7 HB7 HE7 HSs HC8 HS8 HB8
            go_wp2_with fail
            refine HCALL.out.mono ?_
            rintro e w9 ⟨v9, tl, pos', q9, L9, rfl, HC9, HS9, HO9, HL9⟩
            go_wp2_with fail
            go_ret
            exact ⟨v9, tl, pos', q9, L9, rfl, HC9, HS9, HO9, HL9⟩
      · have d0 : ((r4 : Int) == 0) = false := by simp; omega
        clear hr0
        go_wp2_with fail
        go_roundg (T - q1)
        case measure => have := HKK.out; omega
        case rel => exact ⟨q1, g4, off4, n4, cap4, _, v, rfl, rfl, hpq1, hend, HVE.out ▸ HN4, HVE.out ▸ HB6, HC6, HS6, HE6, HSY6⟩
      --]mid
    · have hend : ¬ q1 < T := by have := HMV.out; simpa using this.symm
      clear HMV
      --[end
      obtain rfl : q1 = T := by omega
      obtain ⟨r4, hr4⟩ : ∃ r, r = n4 % 3 := ⟨_, rfl⟩
      have q4' : (n4 : Int).tmod 3 = (r4 : Int) := by rw [Int.tmod_eq_emod_of_nonneg (by omega)]; omega
      have q4a : (n4 : Int) % 3 = (r4 : Int) := by omega
      have HR4 := Lib.hid hr4
      obtain ⟨w7, hw7⟩ : ∃ wz, wz = w6.alloc (.cells (zeros 0 (.int .u8 0)) 5) := ⟨_, rfl⟩
      have hS7 : Same w6 w7 := by rw [hw7]; exact Mod.alloc (Mod.refl _) _
      obtain ⟨rb, hrb⟩ : ∃ rb, rb = w6.heap.size := ⟨_, rfl⟩
      have hRB : Buf w7 K v base (.slice (some ⟨rb, 0, none⟩) 0 0) [] := ⟨by
          have hbb := HB6.out.bb
          rw [hw7, hrb]; exact off_make0 w6 5 (.int .u8 0) 0 base hbb (by unfold maxLen; omega), by
          obtain ⟨g, off, cap, _, hob, hlt, _⟩ := HC6.out.cw.block
          rw [hob]; intro e; have e2 : rb = g := Option.some.inj e; omega, by
          obtain ⟨g, off, cap, e3, hob, hlt, _⟩ := HC6.out.ms.block
          injection e3 with e3
          injection e3 with e3
          injection e3 with e3
          intro e; have e2 : rb = K.mb := Option.some.inj e; omega, Nat.le_trans HB6.out.bb (Mod.size (S := fun _ => False) hS7)⟩
      have hRG : (Value.slice (some ⟨rb, 0, none⟩) 0 0).ownBlock ≠ some g4 := by
        obtain ⟨g', off', cap', e3, hob, hlt, _⟩ := HB6.out.off.block
        injection e3 with e3
        injection e3 with e3
        injection e3 with e3
        intro e; have e2 : rb = g4 := Option.some.inj e; omega
      have HRB := Lib.hid hRB
      have HRG := Lib.hid hRG
      have HC7 := Lib.hid (HC6.out.same hS7)
      have HS7 : Hid (Step p v0 v w0 w7) := Lib.hid (HS6.out.trans (Step.of_same hS7))
      have HB7 := Lib.hid (HB6.out.same hS7)
      have HE7 := Lib.hid (HE6.out.same hS7)
      have HW7 := Lib.hid hw7
      have HRBE := Lib.hid hrb
      have HSY7 : Hid (SyOk K.sh (ws.length + 2 * (n4 / 3)) (some (sq, d))) := Lib.hid (.inr ⟨sq, cur, by rw [HD.out], by have := HN3.out; rw [← HWL.out]; omega⟩)
      have hpq1 : pos < q1 := by have := HQ1.out; omega
      have hTm : q1 ≤ K.msg.length := by have := HTT.out; omega
      have HTM := Lib.hid hTm
      have HLC2 : Hid (lc = (ev 2 (nth K.msg (q1 - 1))).length) := Lib.hid (by rw [HLC.out, HCE.out, HQ1.out]; rfl)
      clear hr4 hw7 hS7 hrb hRB hRG HC6 HS6 HB6 HE6 hTm
      go_upto_region 15 with (fail)
      rw [← HW7.out, ← HRBE.out]
      clear HW7
      go_cut [68] from 61 to 67 (fun b wx => w7 = wx ∧ ∃ bb : Bool, b = .bool bb ∧ Hid (bb = true ↔ (r4 = 2 ∧ a ≠ 2)))
      case first =>
        --[c15
        by_cases hr2 : r4 = 2
        · have d0 : ((r4 : Int) == 2) = true := by simp [hr2]
          by_cases ha2 : a = 2
          · have d1 : ((a : Int) != 2) = false := by simp [ha2]
            go_wp2_with fail
            go_meet
            case rel => exact ⟨rfl, false, rfl, Lib.hid ⟨fun h => (by cases h), fun h => absurd ha2 h.2⟩⟩
          · have d1 : ((a : Int) != 2) = true := by simp; omega
            go_wp2_with fail
            go_meet
            case rel => exact ⟨rfl, true, rfl, Lib.hid ⟨fun _ => ⟨hr2, ha2⟩, fun _ => rfl⟩⟩
        · have d0 : ((r4 : Int) == 2) = false := by simp; omega
          go_wp2_with fail
          go_meet
          case rel => exact ⟨rfl, false, rfl, Lib.hid ⟨fun h => (by cases h), fun h => absurd h.1 hr2⟩⟩
        --]c15
      case rest =>
        obtain ⟨rfl, bb, rfl, HBB⟩ := hcut
        go_upto_if 68 with (fail)
        go_cut [5, 7, 12] from 69 to 78 (fun b l r wx => ∃ k, Hid (BtMem K p ws pos q1 a 2 53 cb base n4 v0 w0 k b l r wx))
        case first =>
          --[c16
          cases bb
          · have hno : ¬ (r4 = 2 ∧ a ≠ 2) := fun h => by have := HBB.out.2 h; cases this
            have HBM : Hid (BtMem K p ws pos q1 a 2 53 cb base n4 v0 w0 q1 (.slice (some ⟨g4, off4, none⟩) n4 cap4) (.int .i64 lc) (.slice (some ⟨rb, 0, none⟩) 0 0) w7) := Lib.hid ⟨V, [], g4, off4, n4, cap4, lc, _, v, rfl, rfl, hlb.2, Nat.le_refl _, Nat.le_refl _, hpq1, HN4, HB7, HRB, HRG, Lib.hid (by simp), HC7, HS7, HE7, Lib.hid (.inl ⟨HVE.out, rfl, HLC2.out, by rw [← HN4.out, ← HR4.out]; exact hno⟩), HSY7⟩
            clear HBB hno
            go_wp2_with fail
            go_meet
            case rel => exact ⟨q1, HBM⟩
          · have hyes := HBB.out.1 rfl
            have hbt := bt_first (m := 2) (a := a) (by decide) HMB.out HTM.out HPT.out (by rw [← HVE.out, ← HN4.out, ← HR4.out]; exact hyes)
            rw [← HVE.out, ← HLC2.out, ← HN4.out] at hbt
            have HBT := Lib.hid hbt
            obtain ⟨q0, hq0'⟩ : ∃ q0, q0 = q1 - 1 := ⟨_, rfl⟩
            obtain ⟨n5, hn5⟩ : ∃ n5, n5 = n4 - lc := ⟨_, rfl⟩
            have hbl := hbt.2
            have hC7 := HC7.out
            rw [show q1 = q0 + 1 by omega] at hC7
            have HBK := Lib.hid (back2 w0 w7 hC7 HS7.out cb HE7.out (by have := HTM.out; omega) HLEN.out (HMB.out q0 (by have := HTM.out; omega)) g4 off4 n4 n5 lc cap4 base HBASE.out V HN4.out (by omega) (by omega) HB7.out (.slice (some ⟨rb, 0, none⟩) 0 0) [] HRB.out HRG.out (by simp))
            have HQ0 := Lib.hid hq0'
            have HN5 := Lib.hid hn5
            have HR2 := Lib.hid hyes
            clear hbt hbl hC7 hq0' hn5 hyes HBB
            go_wp2_with fail
            refine HBK.out.mono ?_
            rintro e w8 ⟨v8, rv, Rm, rfl, HC8, HB8, HRB8, hne8, HS8, HE8, hrm8⟩
            have el : (ev 2 (nth K.msg q0)).length = lc := by rw [HLC2.out, HQ0.out]
            rw [el]
            have HBM : Hid (BtMem K p ws pos q1 a 2 53 cb base n4 v0 w0 q0 (.slice (some ⟨g4, off4, none⟩) n5 cap4) (.int .i64 lc) rv w8) := Lib.hid ⟨V.take n5, Rm, g4, off4, n5, cap4, lc, none, v8, rfl, rfl, hlb.2, by have := HN5.out; omega, by have := HQ0.out; omega, by have := HQ0.out; have := HPT.out; omega, Lib.hid (by rw [List.length_take]; have := HN4.out; have := HN5.out; omega), HB8, HRB8, Lib.hid hne8, Lib.hid (by have := HQ0.out; simp at hrm8; omega), HC8, HS8, HE8, Lib.hid (by rw [HQ0.out, HN5.out]; exact HBT.out.1), Lib.hid (.inl rfl)⟩
            clear el HBK HBT HC8 HB8 HRB8 hne8 HS8 HE8 hrm8
            go_wp2_with fail
            go_meet
            case rel => exact ⟨q0, HBM⟩
          --]c16
        case rest =>
          --[rest
          obtain ⟨k0, HBM⟩ := hcut
          obtain ⟨w8, hw8⟩ : ∃ wz, wz = wc := ⟨_, rfl⟩
          rw [← hw8] at HBM ⊢
          clear hw8 HBB HRB HRG HC7 HS7 HB7 HE7
          go_wp2_with fail
          go_loopg [5, 7, 12] k0 (fun k b l r wx => Hid (BtMem K p ws pos q1 a 2 53 cb base n4 v0 w0 k b l r wx))
          case atStart => exact HBM
          case round =>
            obtain ⟨wo, hwo⟩ : ∃ wo, wo = wr := ⟨_, rfl⟩
            rw [← hwo] at hrel ⊢
            clear hwo HBM
            obtain ⟨X, Rm, g5, off5, n5, cap5, lx, sy5, v5, rfl, rfl, hlx, hn5, hk1, hk2, HN5, HB5, HR5, HNE5, HRL5, HC5, HS5, HE5, HBT, HSY5⟩ := hrel.out
            clear hrel
            obtain ⟨r5, hr5⟩ : ∃ r, r = n5 % 3 := ⟨_, rfl⟩
            have q5a' : (n5 : Int).tmod 3 = (r5 : Int) := by rw [Int.tmod_eq_emod_of_nonneg (by omega)]; omega
            have q5aa : (n5 : Int) % 3 = (r5 : Int) := by omega
            have HR5M := Lib.hid hr5
            have hXl : ∀ x ∈ X, x < 40 := fun x hx => by
              rcases HBT.out.endSt with ⟨h, _, _⟩ | ⟨h, _, _⟩ | ⟨y, h, _, _⟩
              · rw [h] at hx; exact evs_lt (by decide) (part_mem fun i _ _ h => HMB.out i h) x hx
              · rw [h] at hx; exact evs_lt (by decide) (part_mem fun i _ _ h => HMB.out i h) x hx
              · exact evs_lt (mode := 2) (by decide) (l := DV.part K.msg pos (q1 - 1)) (part_mem fun i _ _ h => HMB.out i h) x (by rw [h]; exact List.mem_append_left _ hx)
            have hkT : gk ≤ 1000 := by omega
            clear hr5
            by_cases hr1 : r5 = 1
            · have d0 : ((r5 : Int) == 1) = true := by simp [hr1]
              have dl : ((3 : Int) < (lx : Int)) = False := by simp; omega
              by_cases ha1 : a = 1
              · have d1 : ((a : Int) != 1) = false := by simp [ha1]
                have hx : ¬ (n5 % 3 = 1 ∧ a ≠ 1) := fun h => h.2 ha1
                clear hr1 ha1
                have HCALL := Lib.hid (eodCall (m := 2) (pos := pos) w0 wo HC5.out HS5.out q1 HTT.out HLEN.out HSH.out (by omega) hk1 X hXl g5 off5 n5 cap5 base HBASE.out HN5.out (by omega) (by have := HWB.out; rw [← HWL.out]; omega) HB5.out (by rw [← HWL.out]; have := HN3.out; have := HCMX.out; omega) HSY5.out
                  (fun a' ha' => c40_end (a := a) HSH.out (by decide) HMB.out HTM.out HPT.out (by
                    have e1 := HN3.out
                    have e2 := HDA.out
                    rw [← HVE.out, ← HN4.out, ← HWL.out]
                    rw [show wl + 2 * (n4 / 3) = cur by omega, ← HD.out]; omega) HBT.out.endSt (by rw [← HN5.out]; exact hx) ha'))
                clear HC5 HS5 HB5 HE5 HR5 HNE5
                go_wp2_with fail
                refine HCALL.out.mono ?_
                rintro e w9 ⟨v9, tl, pos', q9, L9, rfl, HC9, HS9, HO9, HL9⟩
                go_wp2_with fail
                go_ret
                exact ⟨v9, tl, pos', q9, L9, rfl, HC9, HS9, HO9, HL9⟩
              · have d1 : ((a : Int) != 1) = true := by simp; omega
                have hbt := bt_next (by decide) HMB.out HTM.out HPT.out HBT.out (by rw [← HN5.out, ← HR5M.out]; exact hr1) ha1
                rw [← HN5.out] at hbt
                have HBN := Lib.hid hbt
                obtain ⟨q0, hq0'⟩ : ∃ q0, q0 = gk - 1 := ⟨_, rfl⟩
                obtain ⟨n6, hn6⟩ : ∃ n6, n6 = n5 - lx := ⟨_, rfl⟩
                have hbl := hbt.1
                have hC5 := HC5.out
                rw [show gk = q0 + 1 by omega] at hC5
                have HBK := Lib.hid (back2 w0 wo hC5 HS5.out cb HE5.out (by have := HTM.out; omega) HLEN.out (HMB.out q0 (by have := HTM.out; omega)) g5 off5 n5 n6 lx cap5 base HBASE.out X HN5.out (by omega) (by omega) HB5.out u12 Rm HR5.out HNE5.out (by have := HRL5.out; omega))
                have HQ0 := Lib.hid hq0'
                have HN6 := Lib.hid hn6
                clear hbt hbl hC5 hq0' hn6 hr1 ha1
                go_wp2_with fail
                refine HBK.out.mono ?_
                rintro e w9 ⟨v9, rv, Rm9, rfl, HC9, HB9, HRB9, hne9, HS9, HE9, hrm9⟩
                obtain ⟨l9, hl9⟩ : ∃ l, l = (ev 2 (nth K.msg q0)).length := ⟨_, rfl⟩
                have hl9b : l9 ≤ 2 := by rw [hl9]; exact (ev_len (by decide) (HMB.out q0 (by have := HQ0.out; have := HTM.out; omega))).2
                have HBM : Hid (BtMem K p ws pos q1 a 2 53 cb base n4 v0 w0 q0 (.slice (some ⟨g5, off5, none⟩) n6 cap5) (.int .i64 l9) rv w9) := Lib.hid ⟨X.take n6, Rm9, g5, off5, n6, cap5, l9, none, v9, rfl, rfl, hl9b, by have := HN6.out; omega, by have := HQ0.out; omega, by have := HQ0.out; have := HPT.out; have hb3 := HBN.out.2.2.2; rcases hb3.endSt with ⟨_, h, _⟩ | ⟨_, h, _⟩ | ⟨_, _, h, _⟩ <;> omega, Lib.hid (by rw [List.length_take]; have := HN5.out; have := HN6.out; omega), HB9, HRB9, Lib.hid hne9, Lib.hid (by have := HQ0.out; have := HRL5.out; omega), HC9, HS9, HE9, Lib.hid (by rw [hl9, HQ0.out, HN6.out]; exact HBN.out.2.2.2), Lib.hid (.inl rfl)⟩
                rw [← hl9]
                have HM9 : Hid (q0 < gk) := Lib.hid (by have := HQ0.out; omega)
                clear HBK HBN HC9 HB9 HRB9 hne9 HS9 HE9 hrm9 hl9 HC5 HB5 HR5 HS5 HE5
                go_wp2_with fail
                go_roundg q0
                case measure => exact HM9.out
                case rel => exact HBM
            · have d0 : ((r5 : Int) == 1) = false := by simp; omega
              have hx : ¬ (n5 % 3 = 1 ∧ a ≠ 1) := fun h => hr1 (by rw [HR5M.out]; exact h.1)
              clear hr1
              have HCALL := Lib.hid (eodCall (m := 2) (pos := pos) w0 wo HC5.out HS5.out q1 HTT.out HLEN.out HSH.out (by omega) hk1 X hXl g5 off5 n5 cap5 base HBASE.out HN5.out (by omega) (by have := HWB.out; rw [← HWL.out]; omega) HB5.out (by rw [← HWL.out]; have := HN3.out; have := HCMX.out; omega) HSY5.out
                (fun a' ha' => c40_end (a := a) HSH.out (by decide) HMB.out HTM.out HPT.out (by
                  have e1 := HN3.out
                  have e2 := HDA.out
                  rw [← HVE.out, ← HN4.out, ← HWL.out]
                  rw [show wl + 2 * (n4 / 3) = cur by omega, ← HD.out]; omega) HBT.out.endSt (by rw [← HN5.out]; exact hx) ha'))
              clear HC5 HS5 HB5 HE5 HR5 HNE5
              go_wp2_with fail
              refine HCALL.out.mono ?_
              rintro e w9 ⟨v9, tl, pos', q9, L9, rfl, HC9, HS9, HO9, HL9⟩
              go_wp2_with fail
              go_ret
              exact ⟨v9, tl, pos', q9, L9, rfl, HC9, HS9, HO9, HL9⟩
          --]rest
      --]end
end Go.Proofs.YtcadknfcahmdcaaGreat
