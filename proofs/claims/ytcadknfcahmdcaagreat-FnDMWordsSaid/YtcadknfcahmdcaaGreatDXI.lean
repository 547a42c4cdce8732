/-
  EdifactEncoder.encode, walked. No condition beyond the bounds that each theorem states.
-/
import Derived.Test.YtcadknfcahmdcaaGreatDXH
import Derived.Deep.DeepCutAuto
import Derived.Deep.LoopGhost
import Derived.Deep.RegionHeld3
namespace Go.Proofs.YtcadknfcahmdcaaGreat
open Go.RowKit Go.Qz Go.Qz.DF
open Go.Qz.DV hiding val run part
set_option linter.unusedVariables false

set_option maxRecDepth 100000 in
theorem ediMode (w : World) : Calls Tryz.prog 147 #[.agg #[]] w fun e w' => e = .returned (.int .i64 4) ∧ Hid (Below w.heap.size w w') := by
  have HB := Lib.hid ((Below.refl w.heap.size w).alloc (Nat.le_refl _) (.cells #[] 87))
  go_enter Tryz.func147, Tryz.ntmps147
  go_wp2_with fail
  go_ret
  exact ⟨rfl, HB⟩
theorem atEdi {W : World} {p : Nat} {K : CK} {ws : List Nat} {pos : Nat} {enc : Int} {sy : Option (Nat × Nat)} {v : Value} (X : World) (h : Ctx W p K ws pos enc sy v) (hX : X.cell? ⟨p, 5, none⟩ = some (.int .i64 pos) ∧ Hid (Same W X)) : Calls Tryz.prog 147 #[.agg #[]] X fun e w' => e = .returned (.int .i64 4) ∧ (w'.cell? ⟨p, 5, none⟩ = some (.int .i64 pos) ∧ Hid (Same W w')) := by
  refine (ediMode X).mono ?_
  rintro e w' ⟨rfl, hbel⟩
  have hs : Same W w' := Mod.trans (S := fun _ => False) hX.2.out (Same.of_below hbel.out)
  exact ⟨rfl, (h.same hs).cells.2.2.2.2.2.1, Lib.hid hs⟩
/-- The first group of four of a buffer that is full: its words, and an empty buffer. -/
theorem ediBuf {w : World} {K : CK} {v : Value} {base g off cap : Nat} {xs : List Nat} (h : Buf w K v base (.slice (some ⟨g, off, none⟩) 4 cap) xs) (hx : xs.length = 4) : (4 ≤ cap ∧ cap ≤ maxLen) ∧ (cap = 4 → Buf w K v base (.slice (some ⟨g, off, none⟩) 0 0) []) ∧ Buf w K v base (.slice (some ⟨g, off + 4, none⟩) 0 (cap - 4)) [] := by
  have ho := h.off
  rw [hx] at ho
  have e0 : (bys xs).drop 4 = bys [] := by rw [bys_drop, List.drop_eq_nil_of_le (by omega)]
  refine ⟨?_, fun hc => ⟨?_, h.ne, h.nm, h.bb⟩, ⟨?_, h.ne, h.nm, h.bb⟩⟩
  · obtain ⟨g', off', cap', cur, e1, hb', hh, h1, h2, _⟩ := ho
    injection e1 with e1 e2 e3
    subst e3
    exact ⟨h1, h2⟩
  · subst hc
    have := ho.drop0 (Nat.le_refl 4)
    rw [e0] at this
    exact this
  · have := ho.drop (Nat.le_refl 4)
    rw [e0] at this
    exact this
set_option maxRecDepth 100000 in
set_option maxHeartbeats 12800000 in
theorem ediEncode {p : Nat} {K : CK} {ws : List Nat} {pos : Nat} {sy : Option (Nat × Nat)} {v0 : Value} (w0 : World) (h : Ctx w0 p K ws pos (-1) sy v0) (T lim : Nat) (hT : T + K.skip = K.msg.length) (hlen : K.msg.length ≤ 1000) (hmb : ∀ i, i < K.msg.length → nth K.msg i < 128) (hlT : lim ≤ T) (hE : ∀ i, pos ≤ i → i < lim → isE (nth K.msg i) = true) (hl8 : lim = T ∨ (lim = pos + 8 ∧ ∀ r, Look K.msg lim 4 r → r ≠ 4)) (hsh : K.sh ≤ 2) (hpT : pos + 2 < T) (hsy : SyOk K.sh ws.length sy) (hw : ws.length ≤ 2 * pos + 1) (hcm : 2 * T + 6 ≤ capMost K.sh) :
    Calls Tryz.prog 146 #[.agg #[], .pointer (some ⟨p, 0, none⟩)] w0 (EdiFin p K ws pos T v0 w0) := by
  have hm0 := fun X => run_make0 (P := Tryz.prog) 24 5 (.int .u8 0) 1 Tryz.underlying24 Tryz.infoBy rfl (by decide) 0 (by omega) .i64 .i64 0 rfl X
  obtain ⟨W0, hW0⟩ : ∃ W0, W0 = w0.alloc (.cells #[] 87) := ⟨_, rfl⟩
  have hS0 : Same w0 W0 := by rw [hW0]; exact Mod.alloc (Mod.refl _) _
  obtain ⟨W, hW⟩ : ∃ W, W = W0.alloc (.cells (zeros 0 (.int .u8 0)) 5) := ⟨_, rfl⟩
  have hS1 : Same W0 W := by rw [hW]; exact Mod.alloc (Mod.refl _) _
  have hS : Same w0 W := Mod.trans (S := fun _ => False) hS0 hS1
  obtain ⟨base, hbase⟩ : ∃ base, base = w0.heap.size := ⟨_, rfl⟩
  obtain ⟨b1, hb1⟩ : ∃ b1, b1 = W0.heap.size := ⟨_, rfl⟩
  have hb1b : base ≤ b1 := by rw [hbase, hb1]; exact Mod.size (S := fun _ => False) hS0
  have HC0 := Lib.hid (h.same hS)
  have HS0 : Hid (Step p v0 v0 w0 W) := Lib.hid (Step.of_same hS)
  have HB0 : Hid (Buf W K v0 base (.slice (some ⟨b1, 0, none⟩) 0 0) []) := Lib.hid ⟨by
      rw [hW, hb1]; exact off_make0 W0 5 (.int .u8 0) 0 base (by omega) (by unfold maxLen; omega), by
      obtain ⟨g, off, cap, _, hob, hlt, _⟩ := h.cw.block
      rw [hob]; intro e; have e2 : b1 = g := Option.some.inj e; omega, by
      obtain ⟨g, off, cap, e3, hob, hlt, _⟩ := h.ms.block
      injection e3 with e3
      injection e3 with e3
      injection e3 with e3
      intro e; have e2 : b1 = K.mb := Option.some.inj e; omega, by rw [hbase]; exact Mod.size (S := fun _ => False) hS⟩
  have e0 : W0.heap.size = w0.heap.size + 1 := by rw [hW0]; simp
  have HBASE := Lib.hid hbase
  have HW := Lib.hid hW
  have HW0 := Lib.hid hW0
  have HB1 := Lib.hid hb1
  have HE0 := Lib.hid e0
  have HTT := Lib.hid hT
  have HMB := Lib.hid hmb
  have HEE := Lib.hid hE
  have HL8 := Lib.hid hl8
  have HLT := Lib.hid hlT
  have HSY := Lib.hid hsy
  have HSH := Lib.hid hsh
  have HPT := Lib.hid hpT
  have HCM := Lib.hid hcm
  have HLEN := Lib.hid hlen
  have HWB := Lib.hid hw
  have hTb : T ≤ 1000 := by omega
  have hTm : T ≤ K.msg.length := by omega
  have HTM := Lib.hid hTm
  have HCB : Hid (capMost K.sh ≤ 1304) := Lib.hid (by unfold capMost; split <;> omega)
  have hls : pos < lim := by omega
  have HLS := Lib.hid hls
  clear h hS hS0 hS1 hbase hb1 hb1b hW hW0 hT hmb hE hl8 hlT hsy hsh hw hpT hcm e0 hTm hls
  go_enter Tryz.func146, Tryz.ntmps146
  go_upto_region 1 with (fail)
  rw [← HW0.out]
  obtain ⟨bx, hbx⟩ : ∃ bx, bx = w0.heap.size := ⟨_, rfl⟩
  rw [← hbx]
  clear hbx HW0 HE0
  go_wp2_with fail
  rw [← HW.out, ← HB1.out]
  clear HW HB1
  go_loopg [5] (T - pos) (fun k b wr => ∃ (q qb j g off n cap : Nat) (v : Value), k = T - q ∧ b = .slice (some ⟨g, off, none⟩) n cap ∧ q ≤ T ∧ Hid (qb = pos + 4 * j ∧ q = qb + n ∧ q ≤ lim ∧ (q = lim → lim = T)) ∧ n ≤ 3 ∧ Hid (Buf wr K v base (.slice (some ⟨g, off, none⟩) n cap) ((DV.part K.msg qb q).map e6)) ∧ Hid (Ctx wr p K (ws ++ sixes (DV.part K.msg pos qb)) q (-1) sy v) ∧ Hid (Step p v0 v w0 wr))
  case atStart => exact ⟨pos, pos, 0, b1, 0, 0, 0, v0, rfl, rfl, by have := HPT.out; omega, Lib.hid ⟨rfl, rfl, by have := HLS.out; omega, by have := HLS.out; omega⟩, by omega, by rw [part_self]; exact HB0, by rw [part_self]; simp only [sixes, List.append_nil]; exact HC0, HS0⟩
  case round =>
    obtain ⟨wo, hwo⟩ : ∃ wo, wo = wr := ⟨_, rfl⟩
    rw [← hwo] at hrel ⊢
    clear hwo HB0 HC0 HS0
    obtain ⟨q, qb, j, g, off, n, cap, v, hgk, rfl, hqT, HQ, hn3, HB, HC, HS⟩ := hrel
    have HGK := Lib.hid hgk
    have HHM := Lib.hid (hasMore wo HC.out T HTT.out (by have := HLEN.out; omega))
    obtain ⟨hmv, hhmv⟩ : ∃ b, b = decide (q < T) := ⟨_, rfl⟩
    rw [← hhmv] at HHM
    have HMV := Lib.hid hhmv
    have HJ : Hid (ws.length + 3 * j + 4 ≤ capMost K.sh ∧ ws.length ≤ 2000) := Lib.hid (by have := HQ.out; have := HWB.out; have := HCM.out; have := HCB.out; omega)
    clear hgk hhmv
    go_wp2_with fail
    refine HHM.out.mono ?_
    rintro e w' ⟨rfl, mq, rfl⟩
    obtain ⟨w1, hw1⟩ : ∃ wz, wz = wo.drewN mq := ⟨_, rfl⟩
    have HC1 := Lib.hid (HC.out.same (Same.drewN wo mq))
    have HS1 : Hid (Step p v0 v w0 (wo.drewN mq)) := Lib.hid (HS.out.trans (Step.of_same (Same.drewN wo mq)))
    have HB1 := Lib.hid (HB.out.same (Same.drewN wo mq))
    rw [← hw1] at HC1 HS1 HB1 ⊢
    clear hw1 HC HS HB HHM
    cases hmv
    · have hend : q = T := by have := HMV.out; have h2 : ¬ q < T := by simpa using this.symm
                              omega
      --[last
      have hnl : ((DV.part K.msg qb q).map e6).length = n := by rw [epart_len (by have := HTM.out; omega)]; have := HQ.out; omega
      have ho1 := HB1.out.off
      rw [hnl] at ho1
      have HO1 := Lib.hid ho1
      have HEND := Lib.hid hend
      have HNL := Lib.hid hnl
      clear HMV hend ho1 hnl
      go_wp2_with (at_builtin; refine wpList_pushL _ _ 24 base 5 (.int .u8 0) 1 (.slice (some ⟨g, off, none⟩) n cap) n (bys ((DV.part K.msg qb q).map e6)) (.int .u8 31) rfl rfl rfl rfl Tryz.underlying24 Tryz.infoBy rfl rfl (by decide) HO1.out (by omega) HB1.out.bb ?_)
      intro bv2 w2 ho2 hg2
      have e1 : bys ((DV.part K.msg qb q).map e6) ++ [.int .u8 31] = bys ((DV.part K.msg qb q).map e6 ++ [31]) := by rw [bys_append]; rfl
      have e2 : n + 1 = ((DV.part K.msg qb q).map e6 ++ [31]).length := by rw [List.length_append, HNL.out]; rfl
      rw [e1, e2] at ho2
      obtain ⟨hb2, hc2⟩ := HB1.out.grew HC1.out hg2 ho2
      obtain ⟨g2, off2, cap2, hv2⟩ := hb2.val
      rw [← e2] at hv2
      obtain ⟨m, hm⟩ : ∃ m, m = n + 1 := ⟨_, rfl⟩
      rw [← hm] at hv2
      subst hv2
      have hs2 : Step p v0 v w0 w2 := HS1.out.buf (HBASE.out ▸ HB1.out) hg2
      have HCALL := Lib.hid (ediCall (pos := pos) (j := j) w0 w2 hc2 hs2 T HTT.out HLEN.out HSH.out HPT.out HQ.out.1 HQ.out.2.1 hqT hn3 (.inr HEND.out) (fun i h1 h2 => HEE.out i h1 (by have := HQ.out; omega)) g2 off2 cap2 base hm hb2 HWB.out HCM.out HSY.out)
      have hm4 : m ≤ 4 := by omega
      clear ho2 hg2 e1 e2 hb2 hc2 hs2 HO1 HNL HC1 HB1 HS1 hm
      go_wp2_with fail
      refine HCALL.out.mono ?_
      rintro e w9 ⟨v9, tl, pos', L9, sy9, rfl, HC9, HS9, HY9, HO9, HL9⟩
      go_wp2_with fail
      go_ret
      exact ⟨v9, tl, pos', L9, sy9, rfl, HC9, HS9, HY9, HO9, HL9⟩
      --]last
    · have hmore : q < T := by have := HMV.out; simpa using this.symm
      clear HMV
      --[more
      have hqm : q < K.msg.length := by have := HTM.out; omega
      obtain ⟨c, hc⟩ : ∃ c, c = nth K.msg q := ⟨_, rfl⟩
      have HGC := Lib.hid (getCur w1 HC1.out hqm (by omega))
      have hql : q < lim := by have := HQ.out; omega
      have hcx : isE c = true := by rw [hc]; exact HEE.out q (by have := HQ.out; omega) hql
      rw [← hc] at HGC
      have HCE := Lib.hid hc
      have HCX := Lib.hid hcx
      have HQL := Lib.hid hql
      clear hc hcx hql
      go_wp2_with fail
      refine HGC.out.mono ?_
      rintro e w' ⟨rfl, mq, rfl⟩
      obtain ⟨w2, hw2⟩ : ∃ wz, wz = w1.drewN mq := ⟨_, rfl⟩
      have HC2 := Lib.hid (HC1.out.same (Same.drewN w1 mq))
      have HS2 : Hid (Step p v0 v w0 (w1.drewN mq)) := Lib.hid (HS1.out.trans (Step.of_same (Same.drewN w1 mq)))
      have HB2 := Lib.hid (HB1.out.same (Same.drewN w1 mq))
      rw [← hw2] at HC2 HS2 HB2 ⊢
      clear hw2 HC1 HS1 HB1 HGC
      have hnl : ((DV.part K.msg qb q).map e6).length = n := by rw [epart_len (by omega)]; have := HQ.out; omega
      have HCH := Lib.hid (ediChar c HCX.out ((DV.part K.msg qb q).map e6) (by rw [hnl]; omega) base (.slice (some ⟨g, off, none⟩) n cap) w2 HB2.out.off HB2.out.bb)
      clear hnl
      go_wp2_with fail
      refine HCH.out.mono ?_
      rintro e w3 ⟨bv, rfl, HO3, HG3⟩
      obtain ⟨q1, hq1⟩ : ∃ q1, q1 = q + 1 := ⟨_, rfl⟩
      have e1 : (DV.part K.msg qb q).map e6 ++ [e6 c] = (DV.part K.msg qb q1).map e6 := by
        have hpa : DV.part K.msg qb (q + 1) = DV.part K.msg qb q ++ DV.part K.msg q (q + 1) := part_add (by have := HQ.out; omega) (by omega) (by omega)
        rw [hq1, HCE.out, hpa, part_one hqm, List.map_append]; rfl
      rw [e1] at HO3
      obtain ⟨hb3, hc3⟩ := HB2.out.grew HC2.out HG3.out HO3.out
      obtain ⟨g3, off3, cap3, hv3⟩ := hb3.val
      obtain ⟨n3, hn3'⟩ : ∃ n3, n3 = n + 1 := ⟨_, rfl⟩
      have hln : ((DV.part K.msg qb q1).map e6).length = n3 := by rw [epart_len (by omega)]; have := HQ.out; omega
      rw [hln] at hv3
      subst hv3
      have HB3 := Lib.hid hb3
      have HC3 := Lib.hid hc3
      have HLN := Lib.hid hln
      have HN3 := Lib.hid hn3'
      have HS3 : Hid (Step p v0 v w0 w3) := Lib.hid (HS2.out.buf (HBASE.out ▸ HB2.out) HG3.out)
      have hn34 : n3 ≤ 4 := by omega
      have wq : Hid ((q : Int) + 1 = (q1 : Int)) := Lib.hid (by omega)
      have c5 := HC3.out.cells.2.2.2.2.2.1
      have f5 := HC3.out.ar.free 5
      have HC4 := Lib.hid (HC3.out.setPos q1)
      have hst := Mod.set1 w3 p 5 (.int .i64 q1)
      obtain ⟨w4, hw4⟩ : ∃ wz, wz = w3.setCell ⟨p, 5, none⟩ (.int .i64 q1) := ⟨_, rfl⟩
      rw [← hw4] at HC4 hst
      have HS4 : Hid (Step p v0 v w0 w4) := Lib.hid (HS3.out.trans (Step.of_p hst))
      have HB4 := Lib.hid (HB3.out.step HC3.out (Step.of_p hst))
      have HW4 := Lib.hid hw4
      have HQ1 := Lib.hid hq1
      have HKK : Hid (T - q1 < gk) := Lib.hid (by have := HGK.out; omega)
      have hq1T : q1 ≤ T := by omega
      clear e1 hb3 hc3 hln hn3' hst hw4 HS2 HB2 HC2 HS3 HB3 HO3 HG3 HCH hq1
      go_upto_region 9 with (fail)
      rw [wq.out, ← HW4.out]
      clear HC3 c5 f5 HW4 wq
      by_cases h4 : n3 = 4
      · obtain rfl : n3 = 4 := h4
        --[four
        obtain ⟨xa, xb, xc, xd, hX⟩ : ∃ a b c d, DV.part K.msg qb q1 = [a, b, c, d] := by
          have hl := HLN.out
          rw [List.length_map] at hl
          match DV.part K.msg qb q1, hl with
          | [a, b, c, d], _ => exact ⟨a, b, c, d, rfl⟩
          | [], hl => simp at hl
          | [_], hl => simp at hl
          | [_, _], hl => simp at hl
          | [_, _, _], hl => simp at hl
          | _ :: _ :: _ :: _ :: _ :: _, hl => simp at hl
        have hx64 : ∀ x ∈ DV.part K.msg qb q1, e6 x < 64 := part_mem fun i h1 h2 h3 => (e6_ok (HEE.out i (by have := HQ.out; omega) (by have := HQL.out; have := HQ1.out; omega))).1
        rw [hX] at hx64
        have hB4 := HB4.out
        have hcl := ediBuf hB4 HLN.out
        have hcc : ∀ k u, (bys [e6 xa, e6 xb, e6 xc, e6 xd])[k]? = some u → w4.cell? ⟨g3, off3 + k, none⟩ = some u := by
          have ho := hB4.off
          rw [HLN.out, hX] at ho
          exact ho.cells
        have HWD := Lib.hid (ediWords4 (e6 xa) (e6 xb) (e6 xc) (e6 xd) (hx64 xa (by simp)) (hx64 xb (by simp)) (hx64 xc (by simp)) (hx64 xd (by simp)) g3 off3 cap3 w4 (hcc 0 _ rfl) (hcc 1 _ rfl) (hcc 2 _ rfl) (hcc 3 _ rfl))
        have HXE := Lib.hid hX
        have hcap1 : (4 : Int) ≤ (cap3 : Int) := by omega
        have hcap2 : cap3 ≤ 9223372036854775807 := by have := hcl.1.2; unfold maxLen at this; omega
        clear hX hx64 hB4 hcc hcl
        go_wp2_with fail
        refine HWD.out.mono ?_
        rintro e w5 ⟨u, rfl, HO5, HL5⟩
        have HS5 : Hid (Step p v0 v w0 w5) := Lib.hid (HS4.out.trans (Step.of_same (Same.of_below HL5.out)))
        have HC5 := Lib.hid (HC4.out.same (Same.of_below HL5.out))
        have HN5 := Lib.hid (newBuf HC4.out (Same.of_below HL5.out) HO5.out)
        have HB5 := Lib.hid (HB4.out.same (Same.of_below HL5.out))
        obtain ⟨gu, ou, cu, hue⟩ := HN5.out.val
        have hue' : u = .slice (some ⟨gu, ou, none⟩) 3 cu := hue
        clear hue
        subst hue'
        have hwl : (ws ++ sixes (DV.part K.msg pos qb)).length + 3 < 100000 := by
          rw [List.length_append, esix_len (n := j) (by have := HQ.out; have := HTM.out; omega) HQ.out.1]
          have := HJ.out; have := HCB.out; omega
        have HWW := Lib.hid (writeWords w5 HC5.out (six3 (e6 xa) (e6 xb) (e6 xc) (e6 xd)) gu ou cu HN5.out.off.cells hwl)
        clear HO5 HL5 HWD HS4 HC4 HB4 hwl
        go_wp2_with fail
        refine HWW.out.mono ?_
        rintro e w6 ⟨v6, rfl, HC6, HS6⟩
        have HS6' : Hid (Step p v0 v6 w0 w6) := Lib.hid (HS5.out.trans HS6.out)
        have HB6 := Lib.hid (HB5.out.step HC5.out HS6.out)
        have e2 : ws ++ sixes (DV.part K.msg pos qb) ++ six3 (e6 xa) (e6 xb) (e6 xc) (e6 xd) = ws ++ sixes (DV.part K.msg pos q1) := by
          have hpa : DV.part K.msg pos q1 = DV.part K.msg pos qb ++ DV.part K.msg qb q1 := part_add (by have := HQ.out; omega) (by have := HQ.out; have := HQ1.out; omega) (by have := HTM.out; omega)
          rw [hpa, HXE.out, sixes_append j _ _ (by rw [part_len (by have := HQ.out; have := HTM.out; omega)]; have := HQ.out; omega), List.append_assoc]
          simp [sixes]
        rw [e2] at HC6
        have hcl := ediBuf HB6.out HLN.out
        have HQ6 : Hid (q1 = pos + 4 * (j + 1) ∧ q1 ≤ lim) := Lib.hid (by have := HQ.out; have := HQ1.out; have := HN3.out; have := HQL.out; omega)
        have hq2000 : q1 ≤ 2000 := by omega
        obtain ⟨off7, cap7, hsl, hB7⟩ : ∃ off7 cap7, ((cap3 = 4 ∧ off7 = off3 ∧ cap7 = 0) ∨ (¬ cap3 = 4 ∧ off7 = off3 + 4 ∧ cap7 = cap3 - 4)) ∧ Buf w6 K v6 base (.slice (some ⟨g3, off7, none⟩) 0 cap7) [] := by
          by_cases hc4 : cap3 = 4
          · exact ⟨off3, 0, .inl ⟨hc4, rfl, rfl⟩, hcl.2.1 hc4⟩
          · exact ⟨off3 + 4, cap3 - 4, .inr ⟨hc4, rfl, rfl⟩, hcl.2.2⟩
        have HB7 := Lib.hid hB7
        obtain ⟨mb, hmb⟩ : ∃ mb, mb = K.mb := ⟨_, rfl⟩
        obtain ⟨mc, hmc⟩ : ∃ mc, mc = K.mc := ⟨_, rfl⟩
        obtain ⟨L, hL⟩ : ∃ L, L = K.msg.length := ⟨_, rfl⟩
        have HX1 := Lib.hid (fun X hX => atMsg HC6.out hmb hmc hL X hX)
        have HX2 := Lib.hid (fun X hX => atEdi X HC6.out hX)
        have HX3 := Lib.hid (fun X hX => atAhead HC6.out hmb hmc hL 4 (by omega) HLEN.out hq2000 HMB.out X hX)
        have hs0 : (w6.drew.cell? ⟨p, 5, none⟩ = some (.int .i64 q1) ∧ Hid (Same w6 w6.drew)) := ⟨HC6.out.cells.2.2.2.2.2.1, Lib.hid (Same.drewN w6 1)⟩
        clear hmb hmc hL e2 hcl hB7 HWW HS5 HC5 HB5 HN5 HS6 HB6 HXE HLN
        go_upto_region 13 with (fail)
        go_cut [5] from 45 to 46 (fun b wx => b = .slice (some ⟨g3, off7, none⟩) 0 cap7 ∧ wx = w6)
        case first =>
          rcases hsl with ⟨h1, h2, h3⟩ | ⟨h1, h2, h3⟩
          · subst h1
            have H2 := Lib.hid h2
            have H3 := Lib.hid h3
            clear h2 h3 HB7
            go_wp2_with fail
            go_meet
            case rel => exact ⟨by rw [H2.out, H3.out], rfl⟩
          · have h5 : ¬ cap3 - 4 = 0 := by omega
            have H2 := Lib.hid h2
            have H3 := Lib.hid h3
            clear h2 h3 HB7
            go_wp2_with fail
            go_meet
            case rel => exact ⟨by rw [H2.out, H3.out], rfl⟩
        case rest =>
          obtain ⟨rfl, rfl⟩ := hcut
          obtain ⟨w6, hw6⟩ : ∃ wz, wz = wc := ⟨_, rfl⟩
          subst hw6
          clear hsl hcap1 hcap2
          go_upto_region 14 with (fail)
          go_cut [11] from 47 to 55 (fun vv wx => ∃ r : Nat, vv = .int .i64 r ∧ Hid (Same w6 wx) ∧ Hid (Look K.msg q1 4 r))
          case first =>
            --[c14
            clear hq2000 hqm hq1T hn34 hn3 hqT hTb hmore hm0 hlen
            go_region_held3 (fun w' => w'.cell? ⟨p, 5, none⟩ = some (.int .i64 q1) ∧ Hid (Same w6 w')) (first | exact hs0 | exact hs3 | exact hs4 | exact hs5)
              (first | (go_at_call 102; refine (HX1.out _ (by assumption)).mono ?_; rintro e w3 ⟨rfl, hs3⟩) | (go_at_call 147; refine (HX2.out _ (by assumption)).mono ?_; rintro e w3 ⟨rfl, hs4⟩) | (go_at_call 105; refine (HX3.out _ (by assumption)).mono ?_; rintro e w3 ⟨r, rfl, hs5, HLK⟩))
            all_goals
              go_wp2_with fail
              go_meet
              case rel => exact ⟨r, rfl, hs5.2, HLK⟩
            --]c14
          case rest =>
            obtain ⟨r, rfl, HSR, HLK⟩ := hcut
            obtain ⟨w7, hw7⟩ : ∃ wz, wz = wc := ⟨_, rfl⟩
            rw [← hw7] at HSR ⊢
            clear hw7 hs0 HX1 HX2 HX3
            have HC7 := Lib.hid (HC6.out.same HSR.out)
            have HS7 : Hid (Step p v0 v6 w0 w7) := Lib.hid (HS6'.out.trans (Step.of_same HSR.out))
            have HB8 := Lib.hid (HB7.out.same HSR.out)
            clear HC6 HS6' HB7 HSR
            go_wp2_with fail
            refine (ediMode w7).mono ?_
            rintro e w8 ⟨rfl, hb8⟩
            have HC8 := Lib.hid (HC7.out.same (Same.of_below hb8.out))
            have HS8 : Hid (Step p v0 v6 w0 w8) := Lib.hid (HS7.out.trans (Step.of_same (Same.of_below hb8.out)))
            have HB9 := Lib.hid (HB8.out.same (Same.of_below hb8.out))
            clear HC7 HS7 HB8 hb8
            by_cases hrm : r = 4
            · have n0 : ((r : Int) != 4) = false := by simp; omega
              have HQ9 : Hid (q1 = pos + 4 * (j + 1) ∧ q1 = q1 + 0 ∧ q1 ≤ lim ∧ (q1 = lim → lim = T)) := Lib.hid ⟨HQ6.out.1, rfl, HQ6.out.2, fun e => by
                rcases HL8.out with h | ⟨_, h⟩
                · exact h
                · exact absurd hrm (h r (e ▸ HLK.out))⟩
              clear hrm
              go_wp2_with fail
              go_roundg (T - q1)
              case measure => exact HKK.out
              case rel => exact ⟨q1, q1, j + 1, g3, off7, 0, cap7, v6, rfl, rfl, hq1T, HQ9, by omega, by rw [part_self]; exact HB9, HC8, HS8⟩
            · have n0 : ((r : Int) != 4) = true := by simp; omega
              clear hrm
              go_wp2_with fail
              refine (signal w8 HC8.out 0).mono ?_
              rintro e w9 ⟨v9, rfl, HC9, HSs⟩
              have HS9 : Hid (Step p v0 v9 w0 w9) := Lib.hid (HS8.out.trans HSs.out)
              have HBs := Lib.hid (HB9.out.step HC8.out HSs.out)
              clear HC8 HS8 HB9 HSs
              go_wp2_with (at_builtin; refine wpList_pushL _ _ 24 base 5 (.int .u8 0) 1 (.slice (some ⟨g3, off7, none⟩) 0 cap7) 0 (bys []) (.int .u8 31) rfl rfl rfl rfl Tryz.underlying24 Tryz.infoBy rfl rfl (by decide) HBs.out.off (by omega) HBs.out.bb ?_)
              intro bv2 w10 ho2 hg2
              obtain ⟨hb2, hc2⟩ := HBs.out.grew (xs' := [31]) HC9.out hg2 ho2
              obtain ⟨g2, off2, cap2, hv2⟩ := hb2.val
              have hv3 : bv2 = .slice (some ⟨g2, off2, none⟩) 1 cap2 := hv2
              clear hv2
              subst hv3
              have hs2 : Step p v0 v9 w0 w10 := HS9.out.buf (HBASE.out ▸ HBs.out) hg2
              have HCALL := Lib.hid (ediCall (pos := pos) (j := j + 1) (n := 0) w0 w10 hc2 hs2 T HTT.out HLEN.out HSH.out HPT.out HQ6.out.1 rfl hq1T (by omega) (.inl ⟨rfl, by omega⟩) (fun i h1 h2 => HEE.out i h1 (by have := HQ6.out; omega)) g2 off2 cap2 base rfl (by rw [part_self]; exact hb2) HWB.out HCM.out HSY.out)
              clear ho2 hg2 hb2 hc2 hs2 HC9 HS9 HBs
              go_wp2_with fail
              refine HCALL.out.mono ?_
              rintro e w11 ⟨v11, tl, pos', L9, sy9, rfl, HC10, HS10, HY10, HO10, HL10⟩
              go_wp2_with fail
              go_ret
              exact ⟨v11, tl, pos', L9, sy9, rfl, HC10, HS10, HY10, HO10, HL10⟩
        --]four
      · have h4i : ((4 : Int) ≤ (n3 : Int)) = False := by simp; omega
        have hn33 : n3 ≤ 3 := by omega
        have HQ4 : Hid (qb = pos + 4 * j ∧ q1 = qb + n3 ∧ q1 ≤ lim ∧ (q1 = lim → lim = T)) := Lib.hid (by
          have := HQ.out; have := HQ1.out; have := HN3.out; have := HQL.out; have := HL8.out
          refine ⟨by omega, by omega, by omega, fun e => ?_⟩
          rcases HL8.out with h | ⟨h, _⟩
          · exact h
          · exfalso; omega)
        clear h4
        go_wp2_with fail
        go_roundg (T - q1)
        case measure => exact HKK.out
        case rel => exact ⟨q1, qb, j, g3, off3, n3, cap3, v, rfl, rfl, hq1T, HQ4, hn33, HB4, HC4, HS4⟩
      --]more
end Go.Proofs.YtcadknfcahmdcaaGreat
