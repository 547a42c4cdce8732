/-
  What a decoder says, compared with segments, walked. No condition beyond the bounds that each theorem states.
-/
import Derived.Test.YthkiajighmhdoaaQCD
import Derived.Deep.RegionLaw
namespace Go.Proofs.Ythkiajighmhdoaa
open Go.RowKit Go.Qz Go.Qz.BS Go.Qz.QA
set_option linter.unusedVariables false

/-- What is left of the segments of bytes. -/
def Lft (S : List (Nat × List Nat)) (q k : Nat) : Prop := (byt S).drop k = byt (S.drop q)
theorem Lft.here {S : List (Nat × List Nat)} {q k : Nat} (h : Lft S q k) (hq : q < S.length) (h4 : mo S q = 4) : k < (byt S).length ∧ sg (byt S) k = tx S q ∧ Lft S (q + 1) (k + 1) := by
  unfold Lft at h ⊢
  rw [drop_seg hq, byt4 (mo S q, tx S q) _ h4] at h
  have hk : k < (byt S).length := by
    have := congrArg List.length h
    rw [List.length_drop, List.length_cons] at this; omega
  refine ⟨hk, ?_, ?_⟩
  · have := congrArg (fun l => l.getD 0 []) h
    simp only [List.getD_eq_getElem?_getD, List.getElem?_drop, List.getElem?_cons_zero, Nat.add_zero] at this
    unfold sg
    rw [List.getD_eq_getElem?_getD, this]; rfl
  · rw [← List.drop_drop, h]; rfl
theorem Lft.skip {S : List (Nat × List Nat)} {q k : Nat} (h : Lft S q k) (hq : q < S.length) (h4 : mo S q ≠ 4) : Lft S (q + 1) k := by
  unfold Lft at h ⊢
  rw [drop_seg hq, byt_no (mo S q, tx S q) _ h4] at h
  exact h
theorem Lft.all {S : List (Nat × List Nat)} {q k : Nat} (h : Lft S q k) (hq : S.length ≤ q) (hk : k ≤ (byt S).length) : k = (byt S).length := by
  unfold Lft at h
  rw [List.drop_eq_nil_of_le hq] at h
  have := congrArg List.length h
  rw [List.length_drop] at this
  simp [byt] at this; omega
set_option maxRecDepth 100000 in
set_option maxHeartbeats 6400000 in
theorem says (S : List (Nat × List Nat)) (hS : ∀ s ∈ S, okSeg s) (n c : Nat) (hn : n = S.length) (hn2 : n ≤ 2) (A : Option Addr) (l : Nat) (hl : l < 4) (Ar : Option Addr) (nr cr : Nat) (A0 : Option Addr) (n0 c0 : Nat) (V : List Value) (err seq par mod : Int) (w : World) (h : Sgs w A S) (ho : Out w A0 n0 c0 (byt S) V) :
    Calls Try.prog 13 #[.agg #[.string (bs (txt S)), .slice Ar nr cr, .slice A0 n0 c0, .string (lvName l), .int .i64 err, .int .i64 seq, .int .i64 par, .int .i64 mod], .slice A n c, .int .i64 l] w fun e w' => e = .returned (.bool true) ∧ Below w.heap.size w w' := by
  obtain ⟨X, hX⟩ : ∃ X, X = bs (txt S) := ⟨_, rfl⟩
  obtain ⟨Y, hY⟩ : ∃ Y, Y = lvName l := ⟨_, rfl⟩
  rw [← hX, ← hY]
  have hb0 : Below w.heap.size w (w.alloc (.cells #[.string X, .slice Ar nr cr, .slice A0 n0 c0, .string Y, .int .i64 err, .int .i64 seq, .int .i64 par, .int .i64 mod] 34)) := (Below.refl _ _).alloc (Nat.le_refl _) _
  have hZ := Arr.new w 34 [.string X, .slice Ar nr cr, .slice A0 n0 c0, .string Y, .int .i64 err, .int .i64 seq, .int .i64 par, .int .i64 mod]
  obtain ⟨W1, hW1⟩ : ∃ W1, W1 = w.alloc (.cells #[.string X, .slice Ar nr cr, .slice A0 n0 c0, .string Y, .int .i64 err, .int .i64 seq, .int .i64 par, .int .i64 mod] 34) := ⟨_, rfl⟩
  rw [← hW1] at hb0
  have hZ : Arr W1 34 w.heap.size [.string X, .slice Ar nr cr, .slice A0 n0 c0, .string Y, .int .i64 err, .int .i64 seq, .int .i64 par, .int .i64 mod] := by rw [hW1]; exact hZ
  obtain ⟨E, hE⟩ : ∃ E, E = w.heap.size := ⟨_, rfl⟩
  rw [← hE] at hZ
  have HZ := Lib.hid hZ
  have HS := Lib.hid (h.below hb0)
  have HO := Lib.hid (ho.below hb0)
  have HB0 := Lib.hid hb0
  have HE := Lib.hid hE
  have HN := Lib.hid hn
  have HSD := Lib.hid (said S hS n c hn hn2 A W1 HS.out)
  have HL := Lib.hid hl
  have HOK := Lib.hid hS
  have HY := Lib.hid hY
  rw [← hX] at HSD
  clear h ho hS hn hb0 hZ hX hl hY
  go_enter Try.func13, Try.ntmps13
  go_wp2_with fail
  rw [← hW1, ← hE]
  clear hW1 hE
  refine HSD.out.mono ?_
  rintro e w2 ⟨rfl, hb2⟩
  have HB2 : Hid (Below w.heap.size w w2) := Lib.hid (HB0.out.trans (hb2.mono HB0.out.size))
  have HS2 := Lib.hid (HS.out.below hb2)
  have HO2 := Lib.hid (HO.out.below hb2)
  have hZ2 := HZ.out.below hb2 HZ.out.lt
  have HZ2 := Lib.hid hZ2
  clear hb2 HS HO HZ HB0 HSD
  have d0 := hZ2.cell? 0
  have d3 := hZ2.cell? 3
  simp only [List.getElem?_cons_zero, List.getElem?_cons_succ] at d0 d3
  clear hZ2
  go_upto_region 2 with (fail)
  have HQN := Lib.hid (qrName l HL.out w2.drew)
  rw [← HY.out] at HQN
  go_region_law (first | (go_simp; go_at_call 28; refine HQN.out.mono ?_; rintro e w8 ⟨rfl, rfl⟩))
  all_goals
    clear d0 d3 HQN HL
    go_wp2_with fail
    go_loopw [9, 30] (fun a i wr => ∃ q k : Nat, q ≤ n ∧ a = .int .i64 k ∧ i = .int .i64 q ∧ k ≤ 2 ∧ Hid (k ≤ (byt S).length) ∧ Hid (Lft S q k) ∧ Hid (Below w2.heap.size w2 wr)) (fun _ i _ => n - (intOf i).toNat)
    case atStart => exact ⟨0, 0, Nat.zero_le _, rfl, rfl, by omega, Lib.hid (Nat.zero_le _), Lib.hid rfl, Lib.hid (Below.refl _ _).drew⟩
    case round =>
      obtain ⟨q, k, hq, rfl, rfl, hk2, HK, HLF, HBE⟩ := hrel
      obtain ⟨wi, hwi⟩ : ∃ wi, wi = wr := ⟨_, rfl⟩
      rw [← hwi] at HBE ⊢
      clear hwi
      have hn0 : n0 = (byt S).length := HO2.out.len
      have HN0 := Lib.hid hn0
      by_cases hlt : q < n
      · have hq1 : (q : Int) < (n : Int) := by omega
        have hq0 : (0 : Int) ≤ (q : Int) := by omega
        have hlS : q < S.length := by rw [← HN.out]; exact hlt
        obtain ⟨b, off, rfl, hb, c0w, A', c', c1w, hcc, hrdw, hfar⟩ := HS2.out q hlS
        have c0 := (HBE.out.cell (p := ⟨b, off + q * 2, none⟩) hb).trans c0w
        have c1 := (HBE.out.cell (p := ⟨b, off + q * 2 + 1, none⟩) hb).trans c1w
        obtain ⟨hm, hT100, hTok⟩ := okSeg_at HOK.out hlS
        obtain ⟨m, hme⟩ : ∃ m, m = mo S q := ⟨_, rfl⟩
        obtain ⟨T, hTe⟩ : ∃ T, T = tx S q := ⟨_, rfl⟩
        rw [← hme] at c0 hm
        rw [← hTe] at c1 hrdw hT100 hcc
        have HM := Lib.hid hme
        have HT := Lib.hid hTe
        obtain ⟨t, ht⟩ : ∃ t, t = T.length := ⟨_, rfl⟩
        rw [← ht] at c1 hrdw hT100 hcc
        have HTL := Lib.hid ht
        obtain ⟨W1, hW1⟩ : ∃ W1, W1 = wi.alloc (.cells #[.int .i64 (m : Nat), .slice A' t c'] 49) := ⟨_, rfl⟩
        have hb1 : Below wi.heap.size wi W1 := by rw [hW1]; exact (Below.refl _ _).alloc (Nat.le_refl _) _
        have hA1 : Arr W1 49 wi.heap.size [.int .i64 (m : Nat), .slice A' t c'] := by rw [hW1]; exact Arr.new _ _ _
        obtain ⟨E1, hE1⟩ : ∃ E1, E1 = wi.heap.size := ⟨_, rfl⟩
        rw [← hE1] at hA1
        have HB1 : Hid (Below w2.heap.size w2 W1) := Lib.hid (HBE.out.trans (hb1.mono HBE.out.size))
        have HRD := Lib.hid (hrdw.below HB1.out)
        have HEE := Lib.hid hE1
        have HA1 := Lib.hid hA1
        have e0 := hA1.cell? 0
        simp only [List.getElem?_cons_zero] at e0
        have HW1 := Lib.hid hW1
        clear hE1 hW1 hb1 hA1 hrdw hTok hme hTe ht hfar HBE c0w c1w hcc hn0
        by_cases hm4 : m = 4
        · subst hm4
          obtain ⟨hkl, hsg, hlf⟩ := HLF.out.here hlS HM.out.symm
          have hkn : (k : Int) < (n0 : Int) := by have := HN0.out; omega
          have hkN : k < n0 := by have := HN0.out; omega
          have hkf : ((n0 : Int) ≤ (k : Int)) = False := by simp; omega
          have hk0 : (0 : Int) ≤ (k : Int) := by omega
          obtain ⟨b6, o6, rfl, hb6, hc6⟩ := HO2.out.rd (by omega)
          obtain ⟨A7, c7, hV7, hcc7, hr7⟩ := HO2.out.each k hkl
          have f0 : W1.cell? ⟨b6, o6 + k, none⟩ = some (V.getD k undef) := (HB1.out.cell (p := ⟨b6, o6 + k, none⟩) hb6).trans (hc6 k hkN)
          rw [hsg, ← HT.out, ← HTL.out] at hV7 hcc7 hr7
          rw [hV7] at f0
          have HLF2 := Lib.hid hlf
          have HK2 : Hid (k + 1 ≤ (byt S).length) := Lib.hid hkl
          have hk1 : k + 1 ≤ 2 := by have := byt_len S; have := HN.out; omega
          have d2 := (HZ2.out.below HB1.out HZ2.out.lt).cell? 2
          have e1 := HA1.out.cell? 1
          simp only [List.getElem?_cons_zero, List.getElem?_cons_succ] at d2 e1
          have HSB := Lib.hid (sameBytes T t HTL.out hT100 A7 c7 A' c' W1.drew (hr7.below HB1.out).drew HRD.out.drew)
          clear hV7 hcc7 hr7 hlf hsg hkl hc6
          have e0 : W1.cell? ⟨E1, 0, none⟩ = some (.int .i64 4) := e0
          have HW1 : Hid (W1 = wi.alloc (.cells #[.int .i64 4, .slice A' t c'] 49)) := HW1
          have c0 : wi.cell? ⟨b, off + q * 2, none⟩ = some (.int .i64 4) := c0
          go_upto_region 8 with (fail)
          rw [← HW1.out, ← HEE.out]
          clear c0 c1
          go_upto_region 9 with (fail)
          go_region_law (first | (go_simp; go_at_call 29; refine HSB.out.mono ?_; rintro e w8 ⟨rfl, hb8⟩))
          all_goals
            have HB8 : Hid (Below w2.heap.size w2 w8) := Lib.hid (HB1.out.drew.trans (hb8.mono (show w2.heap.size ≤ W1.drew.heap.size from HB1.out.size)))
            clear hb8
            go_wp2_with fail
            go_roundw
            case rel => exact ⟨q + 1, k + 1, by omega, by go_num, by go_num, hk1, HK2, HLF2, HB8⟩
            case measure => simp [intOf]; omega
        · have hne : ((m : Int) == 4) = false := by simp; omega
          have HLF2 := Lib.hid (HLF.out.skip hlS (by rw [← HM.out]; exact hm4))
          clear hm4 hm
          go_upto_region 8 with (fail)
          rw [← HW1.out, ← HEE.out]
          clear c0 c1
          go_wp2_with fail
          go_roundw
          case rel => exact ⟨q + 1, k, by omega, by go_num, by go_num, hk2, HK, HLF2, HB1⟩
          case measure => simp [intOf]; omega
      · obtain rfl : q = n := by omega
        have hk0 := HLF.out.all (by rw [HN.out]; exact Nat.le_refl _) HK.out
        obtain rfl : k = n0 := by rw [hk0, hn0]
        have d2 := (HZ2.out.below HBE.out HZ2.out.lt).cell? 2
        simp only [List.getElem?_cons_zero, List.getElem?_cons_succ] at d2
        have HBB : Hid (Below w.heap.size w wi) := Lib.hid (HB2.out.trans (HBE.out.mono HB2.out.size))
        clear hk0 hn0
        go_wp2_with fail
        go_ret
        exact ⟨rfl, HBB.out⟩
end Go.Proofs.Ythkiajighmhdoaa
