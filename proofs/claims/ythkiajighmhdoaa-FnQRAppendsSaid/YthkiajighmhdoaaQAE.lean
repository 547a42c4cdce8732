/-
  Segments as bits (the reference's), walked. No condition beyond the bounds that each theorem states.
-/
import Derived.Test.YthkiajighmhdoaaQAD
namespace Go.Proofs.Ythkiajighmhdoaa
open Go.RowKit Go.Qz Go.Qz.QA
set_option linter.unusedVariables false

def mo (S : List (Nat × List Nat)) (j : Nat) : Nat := (S.getD j (0, [])).1
def tx (S : List (Nat × List Nat)) (j : Nat) : List Nat := (S.getD j (0, [])).2
theorem drop_seg {S : List (Nat × List Nat)} {j : Nat} (h : j < S.length) : S.drop j = (mo S j, tx S j) :: S.drop (j + 1) := by
  have : S[j] = (mo S j, tx S j) := by unfold mo tx; rw [List.getD_eq_getElem?_getD, List.getElem?_eq_getElem h]; rfl
  rw [← this, List.drop_eq_getElem_cons h]
theorem seg_mem {S : List (Nat × List Nat)} {j : Nat} (h : j < S.length) : (mo S j, tx S j) ∈ S := by
  have : S[j] = (mo S j, tx S j) := by unfold mo tx; rw [List.getD_eq_getElem?_getD, List.getElem?_eq_getElem h]; rfl
  rw [← this]; exact List.getElem_mem h
/-- Segments in memory. -/
def Sgs (w : World) (A : Option Addr) (S : List (Nat × List Nat)) : Prop := ∀ j, j < S.length → ∃ b off, A = some ⟨b, off, none⟩ ∧ b < w.heap.size ∧
  w.cell? ⟨b, off + j * 2, none⟩ = some (.int .i64 (mo S j : Nat)) ∧ ∃ A' c', w.cell? ⟨b, off + j * 2 + 1, none⟩ = some (.slice A' (tx S j).length c') ∧ (tx S j).length ≤ c' ∧ Rd w A' (tx S j).length (fun i => .int .u8 (nth (tx S j) i : Nat)) ∧ (∀ a, A' = some a → a.block < w.heap.size)
theorem Sgs.below {w w' : World} {A : Option Addr} {S : List (Nat × List Nat)} (h : Sgs w A S) (hb : Below w.heap.size w w') : Sgs w' A S := fun j hj => by
  obtain ⟨b, off, e, hlt, h1, A', c', h2, h3, h4, h5⟩ := h j hj
  exact ⟨b, off, e, Nat.lt_of_lt_of_le hlt hb.size, (hb.cell (p := ⟨b, off + j * 2, none⟩) hlt).trans h1, A', c', (hb.cell (p := ⟨b, off + j * 2 + 1, none⟩) hlt).trans h2, h3, h4.below hb, fun a ha => Nat.lt_of_lt_of_le (h5 a ha) hb.size⟩
theorem okSeg_at {S : List (Nat × List Nat)} (h : ∀ s ∈ S, okSeg s) {j : Nat} (hj : j < S.length) : (mo S j = 1 ∨ mo S j = 2 ∨ mo S j = 4) ∧ (tx S j).length ≤ 100 ∧ ∀ i, i < (tx S j).length → okIn (mo S j) (nth (tx S j) i) ∧ 32 ≤ nth (tx S j) i ∧ nth (tx S j) i ≤ 126 := by
  obtain ⟨h1, h2, h3⟩ := h _ (seg_mem hj)
  exact ⟨h1, h2, fun i hi => h3 _ (nth_mem hi)⟩
def StmPost (v : Nat) (S : List (Nat × List Nat)) (w : World) (e : Ending) (w' : World) : Prop :=
  ∃ x, e = .returned (.tuple #[x, .bool true]) ∧ w'.ownsRow w.heap.size 4 1 x (stm v S).length (bvl (stm v S)) ∧ Below w.heap.size w w'
set_option maxRecDepth 100000 in
set_option maxHeartbeats 6400000 in
theorem stream (v : Nat) (hv : v ≤ 40) (S : List (Nat × List Nat)) (hS : ∀ s ∈ S, okSeg s) (n c : Nat) (hn : n = S.length) (hn2 : n ≤ 2) (A : Option Addr) (w : World) (h : Sgs w A S) :
    Calls Try.prog 8 #[.slice A n c, .int .i64 v] w (StmPost v S w) := by
  have HS := Lib.hid h
  have HOK := Lib.hid hS
  have HN := Lib.hid hn
  clear h hS hn
  go_enter Try.func8, Try.ntmps8
  go_wp2_with fail
  go_loopw [6, 13] (fun x i wr => ∃ (q : Nat) (Y : List Bool), q ≤ n ∧ i = .int .i64 q ∧ Y.length ≤ 1000 * q ∧ Hid (Y ++ stm v (S.drop q) = stm v S) ∧ Hid (wr.ownsRow w.heap.size 4 1 x Y.length (bvl Y)) ∧ Hid (Below w.heap.size w wr)) (fun _ i _ => n - (intOf i).toNat)
  case atStart => exact ⟨0, [], Nat.zero_le _, rfl, Nat.le_refl _, Lib.hid rfl, Lib.hid (World.ownsRow_nil _ _ _ _), Lib.hid (Below.refl _ _)⟩
  case round =>
    obtain ⟨q, Y, hq, rfl, hYl, HY, HO, HBE⟩ := hrel
    obtain ⟨wi, hwi⟩ : ∃ wi, wi = wr := ⟨_, rfl⟩
    rw [← hwi] at HO HBE ⊢
    clear hwi
    by_cases hlt : q < n
    · have hq1 : (q : Int) < (n : Int) := by omega
      have hq0 : (0 : Int) ≤ (q : Int) := by omega
      have hlS : q < S.length := by rw [← HN.out]; exact hlt
      obtain ⟨b, off, rfl, hb, c0w, A', c', c1w, hcc, hrdw, hfar⟩ := HS.out q hlS
      have c0 := (HBE.out.cell (p := ⟨b, off + q * 2, none⟩) hb).trans c0w
      have c1 := (HBE.out.cell (p := ⟨b, off + q * 2 + 1, none⟩) hb).trans c1w
      have hrd := hrdw.below HBE.out
      obtain ⟨hm, hT100, hTok⟩ := okSeg_at HOK.out hlS
      have HDS := Lib.hid (drop_seg hlS)
      obtain ⟨m, hme⟩ : ∃ m, m = mo S q := ⟨_, rfl⟩
      obtain ⟨T, hTe⟩ : ∃ T, T = tx S q := ⟨_, rfl⟩
      rw [← hme] at c0 hm hTok HDS
      rw [← hTe] at c1 hcc hrd hT100 hTok HDS
      obtain ⟨t, ht⟩ : ∃ t, t = T.length := ⟨_, rfl⟩
      rw [← ht] at c1 hcc hrd hT100 hTok
      clear c0w c1w hrdw hme hTe
      obtain ⟨W1, hW1⟩ : ∃ W1, W1 = wi.alloc (.cells #[.int .i64 (m : Nat), .slice A' t c'] 49) := ⟨_, rfl⟩
      have hb1 : Below wi.heap.size wi W1 := by rw [hW1]; exact (Below.refl _ _).alloc (Nat.le_refl _) _
      have hA1 : Arr W1 49 wi.heap.size [.int .i64 (m : Nat), .slice A' t c'] := by rw [hW1]; exact Arr.new _ _ _
      obtain ⟨E, hE⟩ : ∃ E, E = wi.heap.size := ⟨_, rfl⟩
      rw [← hE] at hA1
      have HO1 := Lib.hid (own_below HO.out hb1)
      have HB1 : Hid (Below w.heap.size w W1) := Lib.hid (HBE.out.trans (hb1.mono HBE.out.size))
      have HRD := Lib.hid (hrd.below hb1)
      have HEF : Hid (u6.ownBlock ≠ some E) := Lib.hid (fun e => by have := (HO.out.lt _ e).2; omega)
      have HAR := Lib.hid hA1
      have HCB := Lib.hid (countBits m v hm hv W1)
      have HTOK := Lib.hid hTok
      have HM := Lib.hid hm
      have HT := Lib.hid ht
      have HCC := Lib.hid hcc
      have HFAR := Lib.hid hfar
      obtain ⟨hcb1, hcb2⟩ := cnt_bd m v
      obtain ⟨k, hk⟩ : ∃ k, k = cnt m v := ⟨_, rfl⟩
      rw [← hk] at HCB hcb1 hcb2
      have HK := Lib.hid hk
      have HEE := Lib.hid hE
      have d0 := hA1.cell? 0
      have d1 := hA1.cell? 1
      simp only [List.getElem?_cons_zero, List.getElem?_cons_succ] at d0 d1
      have HW1 := Lib.hid hW1
      clear hk hE hW1 hb1 hA1 hrd hTok hm ht hcc hfar HO HBE
      go_upto_region 5 with (fail)
      rw [← HW1.out, ← HEE.out]
      clear c0 c1
      go_wp2_with fail
      refine HCB.out.mono ?_
      rintro e w2 ⟨rfl, hb2⟩
      have HO2 := Lib.hid (own_below HO1.out hb2)
      have HB2 : Hid (Below w.heap.size w w2) := Lib.hid (HB1.out.trans (hb2.mono HB1.out.size))
      have HRD2 := Lib.hid (HRD.out.below hb2)
      have HAR2 := Lib.hid (HAR.out.below hb2 HAR.out.lt)
      have d0 := HAR2.out.cell? 0
      have d1 := HAR2.out.cell? 1
      simp only [List.getElem?_cons_zero, List.getElem?_cons_succ] at d0 d1
      have HFT := Lib.hid (fun W hW => segFits m HM.out T t c' HT.out (by omega) (fun j hj => ⟨(HTOK.out j hj).1, by have := HTOK.out j hj; omega⟩) A' W hW)
      clear hb2 HCB HO1 HB1 HRD HAR
      go_wp2_with fail
      have hP : (256 : Int) ≤ ((2 ^ k : Nat) : Int) := by
        have h1 : 2 ^ 8 ≤ 2 ^ k := Nat.pow_le_pow_right (by omega) hcb1
        omega
      have hP2 : ((2 ^ k : Nat) : Int) ≤ 65536 := by
        have h1 : 2 ^ k ≤ 2 ^ 16 := Nat.pow_le_pow_right (by omega) hcb2
        omega
      obtain ⟨P, hPe⟩ : ∃ P, P = 2 ^ k := ⟨_, rfl⟩
      rw [← hPe] at hP hP2
      have hpow : (2 : Int) ^ k = (P : Int) := by rw [hPe]; simp
      have hle : ((P : Int) ≤ (t : Int)) = False := by simp; omega
      have hld : decide ((P : Int) ≤ (t : Int)) = false := by simp; omega
      have hwP : IntKind.i64.wrap (P : Int) = (P : Int) := by rw [IntKind.wrap_i64]; omega
      clear hPe
      go_region_law (first | (go_simp; go_at_call 21; refine (HFT.out _ (show Rd w2.drew A' t _ from HRD2.out)).mono ?_; rintro e w3 ⟨rfl, hb3⟩; have d1' := (hb3.cell (p := ⟨E, 1, none⟩) (show E < w2.drew.heap.size from HAR2.out.lt)).trans (show w2.drew.cell? ⟨E, 1, none⟩ = _ from d1)))
      all_goals
        have hb3' : Below w2.heap.size w2 w3 := (Below.refl _ _).drew.trans hb3
        have HO3 := Lib.hid (own_below HO2.out hb3')
        have HB3 : Hid (Below w.heap.size w w3) := Lib.hid (HB2.out.trans (hb3'.mono HB2.out.size))
        have HRD3 := Lib.hid (HRD2.out.below hb3')
        have HAR3 := Lib.hid (HAR2.out.below hb3' HAR2.out.lt)
        have d0 := HAR3.out.cell? 0
        have d1 := HAR3.out.cell? 1
        simp only [List.getElem?_cons_zero, List.getElem?_cons_succ] at d0 d1
        clear hb3 hb3' HO2 HB2 HRD2 HAR2 hle hld hwP hpow hP hP2 d1' HFT
        have hm16 : m < 65536 := by have := HM.out; omega
        have hwb : w.heap.size ≤ w3.heap.size := HB3.out.size
        have HWB := Lib.hid hwb
        clear hwb
        go_wp2_with fail
        go_region_law (first
          | (go_simp; go_at_call 22; refine (qrAdd (Y ++ bo m 4) t k w.heap.size (by omega) hcb2 (by rw [List.length_append, bo_len]; omega) _ w4 (Nat.le_trans HWB.out hs4.1.size) ho4).mono ?_; rintro e w5 ⟨v5, rfl, ho5, hs5⟩)
          | (go_simp; go_at_call 22; refine (qrAdd Y m 4 w.heap.size hm16 (by omega) (by omega) u6 w3.drew HWB.out (show w3.drew.ownsRow w.heap.size 4 1 u6 Y.length (bvl Y) from HO3.out)).mono ?_; rintro e w4 ⟨v4, rfl, ho4, hs4⟩; have d1' := (hs4.cell (p := ⟨E, 1, none⟩) (show E < w3.drew.heap.size from HAR3.out.lt) HEF.out).trans (show w3.drew.cell? ⟨E, 1, none⟩ = _ from d1)))
        all_goals
          have hs45 : Sta w3 w5 u6 v5 := (show Sta w3 w4 u6 v4 from ⟨⟨hs4.1.os, hs4.1.tape, hs4.1.output, hs4.1.size, hs4.1.block⟩, hs4.2⟩).trans hs5
          have hbe5 : Below w.heap.size w3 w5 := hs45.base HO3.out HWB.out
          have HB5 : Hid (Below w.heap.size w w5) := Lib.hid (HB3.out.trans hbe5)
          have HRD5 : Hid (Rd w5 A' t (fun i => .int .u8 (nth T i : Nat))) := Lib.hid ((Mod.of_belowE hbe5).rd HRD3.out (fun a ha _ e => by have := HFAR.out a ha; have e : w.heap.size ≤ a.block := e; omega))
          have d0 := (hs45.cell (p := ⟨E, 0, none⟩) HAR3.out.lt HEF.out).trans d0
          have d1 := (hs45.cell (p := ⟨E, 1, none⟩) HAR3.out.lt HEF.out).trans d1
          have HSD := Lib.hid (segData m HM.out T t c' HT.out (by omega) (fun j hj => ⟨(HTOK.out j hj).1, by have := HTOK.out j hj; omega⟩) (Y ++ bo m 4 ++ bo t k) (by rw [List.length_append, List.length_append, bo_len, bo_len]; omega) w.heap.size v5 A' w5 (Nat.le_trans HWB.out hs45.1.size) ho5 HRD5.out HCC.out HFAR.out)
          have HO5 := Lib.hid ho5
          obtain ⟨X5, hX5⟩ : ∃ X5, X5 = Y ++ bo m 4 ++ bo t k := ⟨_, rfl⟩
          rw [← hX5] at HSD HO5
          have HX5 := Lib.hid hX5
          clear hs45 hbe5 ho4 hs4 d1' ho5 hs5 hX5
          go_wp2_with fail
          refine HSD.out.mono ?_
          rintro e w6 ⟨v6, rfl, ho6, hs6⟩
          have HB6 : Hid (Below w.heap.size w w6) := Lib.hid (HB5.out.trans (hs6.base HO5.out HB5.out.size))
          have HO6 := Lib.hid ho6
          clear ho6 hs6 HSD
          go_wp2_with fail
          go_roundw
          case rel =>
            refine ⟨q + 1, X5 ++ dat m T, by omega, by go_num, ?_, Lib.hid ?_, HO6, HB6⟩
            · have := dat_len m _ T (Nat.le_refl _)
              have := HT.out
              rw [HX5.out, List.length_append, List.length_append, List.length_append, bo_len, bo_len]; omega
            · have h9 := HY.out
              rw [HDS.out] at h9
              rw [HX5.out, ← h9, HT.out, HK.out]
              simp [stm]
          case measure => simp [intOf]; omega
    · obtain rfl : q = n := by omega
      have hY := HY.out
      rw [List.drop_eq_nil_of_le (by rw [← HN.out]; exact Nat.le_refl _), show stm v [] = [] by rfl, List.append_nil] at hY
      have HYY := Lib.hid hY
      clear hY
      go_wp2_with fail
      go_ret2
      exact ⟨_, rfl, by rw [← HYY.out]; exact HO.out, HBE.out⟩
end Go.Proofs.Ythkiajighmhdoaa
