/-
  Encode, walked. No condition beyond the bounds that the theorem states.
-/
import Derived.Test.YthagfgfefkpikaaRSE3
import Derived.Test.YthagfgfefkpikaaRSM
import Derived.Laws.CopyOwn
namespace Go.Proofs.Ythagfgfefkpikaa
open Go.RowKit Go.Qz Go.Qz.RS
set_option linter.unusedVariables false

theorem set_same {α : Type} {l : List α} {i : Nat} {a : α} (h : l[i]? = some a) : l.set i a = l := by
  apply List.ext_getElem?
  intro j
  rw [List.getElem?_set]
  by_cases e : i = j
  · subst e
    rw [if_pos rfl, h]
    have : i < l.length := by
      rcases Nat.lt_or_ge i l.length with h1 | h1
      · exact h1
      · rw [List.getElem?_eq_none h1] at h; cases h
    rw [if_pos this]
  · rw [if_neg e]
/-- So many numbers as values. -/
def ints (l : List Nat) : List Value := l.map fun x : Nat => Value.int .i64 (x : Int)
theorem ints_length (l : List Nat) : (ints l).length = l.length := by simp [ints]
theorem ints_append (a b : List Nat) : ints (a ++ b) = ints a ++ ints b := by simp [ints]
theorem ints_get (l : List Nat) (j : Nat) (hj : j < l.length) : (ints l)[j]? = some (.int .i64 (nth l j : Nat)) := by simp [ints, hj, nth_eq hj]
theorem ints_one (l : List Nat) : ∀ v ∈ ints l, v.oneCell' = true := by
  intro v hv
  obtain ⟨x, _, rfl⟩ := List.mem_map.1 hv
  rfl

def EncPost (F : Fld) (data : List Nat) (ec lb B : Nat) (spare : List Value) (w : World) (en : Ending) (w' : World) : Prop :=
  ∃ q r, en = .returned .nilIface ∧ Arr w' 3 lb (ints (coded data r ec) ++ spare) ∧ El F q ∧ El F r ∧ q ≠ [] ∧ r.length ≤ ec ∧ plus (prod F q (gen F ec)) r = shfL F (tidy data) ec 1 ∧ Below B w w'

set_option maxRecDepth 100000 in
set_option maxHeartbeats 6400000 in
theorem encode (F : Fld) (hF : Six F) (E e f g0 lb B ec n cap : Nat) (v0 : Value) (data : List Nat) (spare : List Value) (h1 : 1 ≤ ec) (hec : ec + 1 ≤ F.size) (hd1 : data ≠ []) (hdl : data.length + ec ≤ 5000) (hde : El F data) (hn : n = data.length + ec) (hcap : cap = n + spare.length) (hcm : cap ≤ maxLen)
    (w : World) (hBl : B ≤ lb) (hL : lb < E) (hE : E ≤ w.heap.size) (he : EncQ w E e f v0 1 [.pointer (some ⟨g0, 0, none⟩)]) (hg : PolyQ w (Away lb e v0) g0 f [1]) (hf : GFQ w (fun k => k < E ∧ k ≠ lb) f F)
    (ha : Arr w 3 lb (ints (data ++ List.replicate ec 0) ++ spare)) :
    Calls Try.prog 42 #[.pointer (some ⟨e, 0, none⟩), .slice (some ⟨lb, 0, none⟩) n cap, .int .i64 ec] w (EncPost F data ec lb B spare w) := by
  have hs := hF.bounds
  have HBG := Lib.hid (buildGen F hF lb E e f g0 ec v0 h1 hec w hL hE he hg hf)
  obtain ⟨d, hd⟩ : ∃ d, d = data.length := ⟨_, rfl⟩
  have hdp := List.length_pos_iff.2 hd1
  have en1 : (n : Int) - (ec : Int) = (d : Int) := by omega
  have hd0 : 1 ≤ d := by omega
  have hdl2 : d ≤ 5000 := by omega
  have hnl : n ≤ 5000 := by omega
  have hel : ec ≤ 5000 := by omega
  have hlo := he.lo
  have helt := he.arr.lt
  have HF := Lib.hid hf
  have HA := Lib.hid ha
  have HD := Lib.hid hd
  have HDE := Lib.hid hde
  have HD1 := Lib.hid hd1
  have HEC := Lib.hid hec
  have HN : Hid (n = d + ec) := Lib.hid (by omega)
  have HCAP := Lib.hid hcap
  have hnc : n ≤ cap := by omega
  have hcm2 : cap ≤ 9223372036854775807 := by unfold maxLen at hcm; omega
  have g1 : ((ec : Int) ≤ 0) = False := by simp; omega
  have g2 : ((d : Int) ≤ 0) = False := by simp; omega
  have hmk := fun W => run_make1 (P := Try.prog) 29 3 (.int .i64 0) 8 Try.underlying29 Try.infoInt rfl (by decide) d (by omega) .i64 .i64 (d : Int) rfl W
  have hneq2 : ∀ W, (binOp .neq 58 .nilIface .nilIface).run Try.prog W = .ok (.bool false) W := fun W => rfl
  clear he hg hf ha hd hde hd1 hec hn hcap hdp hcm
  go_enter Try.func42, Try.ntmps42
  go_wp2_with fail
  refine HBG.out.mono ?_
  rintro en w1 ⟨rg, v1, rfl, hrg, harr1, hb1⟩
  have HG1 := Lib.hid hrg.bound
  have HAR1 := Lib.hid harr1
  have HB1 := Lib.hid hb1
  have HA1 := Lib.hid (HA.out.below hb1 hL)
  have hE1 : E ≤ w1.heap.size := Nat.le_trans hE hb1.size
  clear hrg harr1 hb1 HBG HA
  go_upto_region 8 with (fail)
  have hI := IA.zeros w1 3 d
  obtain ⟨I, hIe⟩ : ∃ I, I = w1.heap.size := ⟨_, rfl⟩
  have hbm : Below I w1 (w1.alloc (.cells (zeros d (.int .i64 0)) 3)) := hIe ▸ (Below.refl _ _).alloc (Nat.le_refl _) _
  obtain ⟨w2, hw2⟩ : ∃ w2, w2 = w1.alloc (.cells (zeros d (.int .i64 0)) 3) := ⟨_, rfl⟩
  rw [← hw2, ← hIe] at hI
  rw [← hw2] at hbm ⊢
  rw [← hIe] at hE1 ⊢
  have hlI : lb < I := by omega
  have heI : e < I := by
    have := HAR1.out.lt; omega
  have HA2 := Lib.hid (HA1.out.below hbm hlI)
  have HII := Lib.hid hI.arr
  have HB2 := Lib.hid (HB1.out.trans (hbm.mono hE1))
  have HG2 : Hid (PolyQ w2 (fun k => k ≠ lb ∧ k < I) rg f (gen F ec)) := Lib.hid (by have := HG1.out.below (by rw [← hIe]; exact hbm); rw [← hIe] at this; exact this)
  have hAR2 := HAR1.out.below hbm heI
  have HAR2 := Lib.hid hAR2
  have HW2 := Lib.hid hw2
  have hI2 : I < w2.heap.size := hI.lt
  have HBM := Lib.hid hbm
  have hCS : ∀ (j : Nat) (v : Value), (ints data)[j]? = some v → w2.cell? ((⟨lb, 0, none⟩ : Addr).add j) = some v := by
    intro j v hj
    rw [add_plain, HA2.out.cell?, List.getElem?_append_left, ints_append, List.getElem?_append_left, Nat.zero_add]
    · exact hj
    · rw [Nat.zero_add]
      rcases Nat.lt_or_ge j (ints data).length with h | h
      · exact h
      · rw [List.getElem?_eq_none h] at hj; cases hj
    · rw [Nat.zero_add]
      have : j < (ints data).length := by
        rcases Nat.lt_or_ge j (ints data).length with h | h
        · exact h
        · rw [List.getElem?_eq_none h] at hj; cases hj
      rw [ints_append, List.length_append]; omega
  have HCS := Lib.hid hCS
  have HCL : Hid ((ints data).length = d) := Lib.hid (by rw [ints_length]; exact HD.out.symm)
  clear hI hw2 hIe hbm hCS hmk hAR2 HG1 HA1 HB1 HAR1
  go_wp2_with (refine wpList_copy_splice rfl _ _ 29 29 rfl 3 Try.underlying29 (by kernel_rfl) _ _ _ _ _ _ rfl rfl I 0 _ 3 HII.out (ints data) (by rw [HCL.out, HN.out]; exact (Nat.min_eq_right (by omega)).symm) (fun _ => ⟨rfl, _, rfl, HCS.out⟩) (by rw [HCL.out]; simp) (ints_one _) I w2 (Below.refl _ _) (Nat.le_refl _) ?_)
  intro w3 HG hb3
  have hsp : splice (List.replicate d (Value.int .i64 0)) 0 (ints data) = ints data := by simp [splice, HCL.out]
  rw [hsp] at HG
  have hs3 : w2.heap.size ≤ w3.heap.size := hb3.size
  have HI3 : Hid (IA w3 3 I data) := Lib.hid HG.out
  have HA3 := Lib.hid (HA2.out.below hb3 hlI)
  have HG3 : Hid (PolyQ w3 (fun k => k ≠ lb) rg f (gen F ec)) := Lib.hid ((HG2.out.mod (Mod.of_belowE hb3) (fun k hk => by omega)).imp fun k hk => hk.1)
  have HB3 := Lib.hid (HB2.out.trans (hb3.mono hE1))
  have HF3 : Hid (GFQ w3 (fun k => k < E ∧ k ≠ lb) f F) := Lib.hid (HF.out.mod (Mod.of_belowE HB3.out) (fun k hk => by omega))
  have HAR3 := Lib.hid (HAR2.out.below hb3 heI)
  have c0 := HAR3.out.cell? 0
  simp only [List.getElem?_cons_zero] at c0
  have hsl : SlQ w3 (fun k => k ≠ lb) (some ⟨I, 0, none⟩) data d := ⟨by have := HD.out; omega, fun _ => ⟨I, 0, rfl, by omega, by omega, fun j hj => by rw [Nat.zero_add]; exact HI3.out.cell hj⟩⟩
  have hPN := poly_new (fun k => k ≠ lb) f (some ⟨I, 0, none⟩) data d w3 (fun k hk => by omega) HD1.out (by have := HD.out; omega) hsl
  rw [← HD.out] at hPN
  have HPN := Lib.hid hPN
  clear hsp HG hb3 hsl hPN HA2 HII HB2 HG2 HAR2 HCS HBM HW2
  go_wp2_with fail
  refine HPN.out.mono ?_
  rintro en w4 ⟨pi, rfl, hpi, hb4, _⟩
  have hs4 : w3.heap.size ≤ w4.heap.size := hb4.size
  have HG4 := Lib.hid (HG3.out.below hb4)
  have HF4 := Lib.hid (HF3.out.below hb4)
  have HA4 := Lib.hid (HA3.out.below hb4 (by omega))
  have HB4 := Lib.hid (HB3.out.trans (hb4.mono (by omega)))
  have htl := tidy_length data
  have HPM := Lib.hid (polyMonoQ (fun k => k ≠ lb) F hF pi f ec 1 (tidy data) (ec : Int) rfl (by omega) (by omega) HDE.out.tidy (by have := HD.out; omega) w4 (fun k hk => by omega) hpi (HF4.out.imp fun k hk => hk.2))
  clear hpi hb4 HPN HG3 HF3 HA3 HB3 c0 htl HAR3
  go_wp2_with fail
  refine HPM.out.mono ?_
  rintro en w5 ⟨pm, rfl, hpm, hb5⟩
  have hs5 : w4.heap.size ≤ w5.heap.size := hb5.size
  have hshl := shfL_length F (tidy_ne data HD1.out) ec 1
  have htl := tidy_length data
  have hgt := gen_top hF ec
  have hg0 : gen F ec ≠ [0] := by intro h; rw [h] at hgt; simp at hgt; omega
  have HF5 := Lib.hid (HF4.out.below hb5)
  have HA5 := Lib.hid (HA4.out.below hb5 (by omega))
  have HB5 := Lib.hid (HB4.out.trans (hb5.mono (by omega)))
  have HSE := Lib.hid (shfL_el hF HDE.out.tidy ec 1)
  have HDV := Lib.hid (polyDivQ (fun k => k ≠ lb) F hF pm rg f (shfL F (tidy data) ec 1) (gen F ec) (by have := HD.out; omega) (by omega) HSE.out (gen_el hF ec) (shfL_tidy _ _ _ _) (gen_tidy F ec) hg0 w5 (fun k hk => by omega) hpm (HG4.out.below hb5) (HF5.out.imp fun k hk => hk.2))
  clear hpm hb5 HPM HG4 HF4 HA4 HB4 htl hshl hgt hg0
  go_wp2_with fail
  refine HDV.out.mono ?_
  rintro en w6 ⟨pq, pr, lq, lr, rfl, hb6, hpq, hpr, hdv, hlr⟩
  have hs6 : w5.heap.size ≤ w6.heap.size := hb6.size
  have hgt := (gen_top hF ec).1
  have hrp := List.length_pos_iff.2 hdv.rn
  have hrl : lr.length ≤ ec := by
    rcases hlr with h | h
    · omega
    · rw [h]; exact h1
  have HV := Lib.hid hdv
  have HLAW := Lib.hid (Dv.law hF (shfL_tidy _ _ _ _) (shfL_ne (tidy_ne data HD1.out) ec 1) (gen_ne F ec) (gen_el hF ec) hdv)
  have HA6 := Lib.hid (HA5.out.below hb6 (by omega))
  have HB6 := Lib.hid (HB5.out.trans (hb6.mono (by omega)))
  have HCO := Lib.hid (polyCoeffs (fun k => k ≠ lb) pr f lr w6 hpr)
  obtain ⟨z, hz⟩ : ∃ z, z = ec - lr.length := ⟨_, rfl⟩
  have ez : (ec : Int) - (lr.length : Int) = (z : Int) := by omega
  have HZ := Lib.hid hz
  clear hb6 hpq hpr hdv hlr HDV HF5 HA5 HB5 hgt hz HSE
  go_wp2_with fail
  refine HCO.out.mono ?_
  rintro en w7 ⟨A7, c7, rfl, hsl7, rfl⟩
  have HSL := Lib.hid hsl7
  clear hsl7 HCO
  have HLEN : Hid ((ints (data ++ List.replicate ec 0) ++ spare).length = cap) := Lib.hid (by rw [List.length_append, ints_length, List.length_append, List.length_replicate, HCAP.out, HN.out, HD.out])
  have HAR : Hid (∀ j, d ≤ j → j < n → (ints (data ++ List.replicate ec 0) ++ spare)[j]? = some (.int .i64 0)) := Lib.hid (fun j h1 h2 => by
    have hl : (data ++ List.replicate ec 0).length = n := by rw [List.length_append, List.length_replicate, HN.out, HD.out]
    rw [List.getElem?_append_left (by rw [ints_length]; omega), ints_get _ _ (by omega)]
    unfold nth
    rw [List.getD_eq_getElem?_getD, List.getElem?_append_right (by rw [← HD.out]; exact h1), List.getElem?_replicate, if_pos (by have := HN.out; have := HD.out; omega)]
    rfl)
  obtain ⟨cells, hcells⟩ : ∃ cells, cells = ints (data ++ List.replicate ec 0) ++ spare := ⟨_, rfl⟩
  rw [← hcells] at HA6 HLEN HAR
  have HCELLS := Lib.hid hcells
  clear hcells
  obtain ⟨wl, hwl⟩ : ∃ wl, wl = w6 := ⟨_, rfl⟩
  rw [← hwl] at HA6 HB6 HSL ⊢
  clear hwl
  go_wp2_with fail
  go_loopw [17] (fun i wr => ∃ k : Nat, k ≤ z ∧ i = .int .i64 k ∧ Hid (Arr wr 3 lb cells) ∧ Hid (SlQ wr (fun k => k ≠ lb) A7 lr c7) ∧ Hid (Below B w wr)) (fun i _ => z - (intOf i).toNat)
  case atStart => exact ⟨0, by omega, rfl, HA6, HSL, Lib.hid (HB6.out.mono (by omega))⟩
  case round =>
    obtain ⟨k, hk, rfl, HA, HS, HB⟩ := hrel
    clear HA6 HSL HB6
    by_cases hlt : k < z
    · have hlt1 : (k : Int) < (z : Int) := by omega
      obtain ⟨j, hj⟩ : ∃ j, j = d + k := ⟨_, rfl⟩
      have ej : (d : Int) + (k : Int) = (j : Int) := by omega
      have hzn : z < ec := by have := HZ.out; omega
      have hjn : j < n := by have := HN.out; omega
      have hjn1 : (j : Int) < (n : Int) := by omega
      have hold := HAR.out j (by omega) hjn
      have hcell := HA.out.cell? j
      rw [hold] at hcell
      have hfree := HA.out.free j
      have HA2 : Hid (Arr (wr.setCell ⟨lb, j, none⟩ (.int .i64 0)) 3 lb cells) := Lib.hid (by
        have := HA.out.set_ j (.int .i64 0)
        rw [set_same hold] at this
        exact this)
      have HS2 : Hid (SlQ (wr.setCell ⟨lb, j, none⟩ (.int .i64 0)) (fun k => k ≠ lb) A7 lr c7) := Lib.hid (HS.out.mod (Mod.set1 wr lb j (.int .i64 0)) (fun k hk h => hk h))
      have HB2 : Hid (Below B w (wr.setCell ⟨lb, j, none⟩ (.int .i64 0))) := Lib.hid (HB.out.setCell (p := ⟨lb, j, none⟩) hBl (.int .i64 0))
      clear hold hj
      go_wp2_with fail
      go_roundw
      case rel => exact ⟨k + 1, by omega, by go_num, HA2, HS2, HB2⟩
      case measure => simp [intOf]; omega
    · obtain rfl : k = z := by omega
      obtain ⟨o, ho⟩ : ∃ o, o = d + k := ⟨_, rfl⟩
      have eo : (d : Int) + (k : Int) = (o : Int) := by omega
      have hzl : k + lr.length = ec := by have := HZ.out; omega
      have hol : o + lr.length = n := by have := HN.out; omega
      have hon : o < n := by omega
      have hon1 : (o : Int) ≤ (n : Int) := by omega
      have hoc1 : (o : Int) ≤ (cap : Int) := by omega
      have hoc : o < cap := by omega
      have hoc2 : (cap = o) = False := by simp; omega
      have hoc3 : (o : Int) < (cap : Int) := by omega
      have hol2 : o ≤ 10000 := by omega
      have hsub : n - o = lr.length := by omega
      have HSP : Hid (splice cells o (ints lr) = ints (coded data lr ec) ++ spare) := Lib.hid (by
        have hd := HD.out
        have hl1 : (ints data).length = d := by rw [ints_length]; exact hd.symm
        have e1 : cells = (ints data ++ ints (List.replicate k 0)) ++ (ints (List.replicate lr.length 0) ++ spare) := by
          rw [HCELLS.out, ints_append, List.append_assoc, List.append_assoc, ← List.append_assoc (ints (List.replicate k 0)), ← ints_append, List.replicate_append_replicate, hzl]
        have hl2 : (ints data ++ ints (List.replicate k 0)).length = o := by rw [List.length_append, hl1, ints_length, List.length_replicate, ho]
        have e2 : cells.take o = ints data ++ ints (List.replicate k 0) := by rw [e1, ← hl2, List.take_left]
        have e3 : cells.drop (o + (ints lr).length) = spare := by
          rw [← List.drop_drop, e1, ← hl2, List.drop_left, ints_length, List.drop_left' (by rw [ints_length, List.length_replicate])]
        unfold splice coded
        rw [e2, e3, show ec - lr.length = k by omega, ints_append, ints_append]
        simp only [List.append_assoc])
      obtain ⟨cs, hcs⟩ : ∃ cs, cs = ints lr := ⟨_, rfl⟩
      rw [← hcs] at HSP
      have HCL9 : Hid (cs.length = lr.length) := Lib.hid (by rw [hcs, ints_length])
      have HONE : Hid (∀ v ∈ cs, v.oneCell' = true) := Lib.hid (by rw [hcs]; exact ints_one lr)
      obtain ⟨rb, ro, hA7, _, _, hrc⟩ := HS.out.2 hrp
      subst hA7
      have HCS9 : Hid (∀ j v, cs[j]? = some v → wr.cell? ((⟨rb, ro, none⟩ : Addr).add j) = some v) := Lib.hid (fun j v hj => by
        have hjl : j < lr.length := by
          rcases Nat.lt_or_ge j lr.length with h | h
          · exact h
          · rw [List.getElem?_eq_none (by rw [HCL9.out]; exact h)] at hj; cases hj
        rw [add_plain, hrc j hjl]
        rw [hcs, ints_get _ _ hjl] at hj
        exact hj)
      have HOF := Lib.hid hol
      clear hrc hcs ho hlt hzl hol
      go_wp2_with (refine wpList_copy_splice rfl _ _ 29 29 rfl 3 Try.underlying29 (by kernel_rfl) _ _ _ _ _ _ rfl rfl lb o _ 3 HA.out cs (by rw [HCL9.out]; first | exact (Nat.min_eq_left (by omega)).symm | (rw [hsub]; exact (Nat.min_self _).symm)) (fun _ => ⟨by first | rfl | simp, _, rfl, HCS9.out⟩) (by rw [HCL9.out, HLEN.out]; have := HOF.out; omega) HONE.out B w HB.out hBl ?_)
      intro w9 HG9 hb9
      rw [HSP.out] at HG9
      have HB9 := Lib.hid hb9
      clear hb9
      go_wp2_with fail
      go_ret
      exact ⟨lq, lr, rfl, HG9.out, HV.out.qe, HV.out.re, HV.out.qn, hrl, HLAW.out, HB9.out⟩
end Go.Proofs.Ythagfgfefkpikaa
