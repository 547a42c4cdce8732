/-
  FnQRAppends, walked: for every input it returns true. No condition beyond what the statement's own domain gives.
-/
import Derived.Test.YthkiajighmhdoaaQCE
import Derived.Test.YthkiajighmhdoaaOFS
namespace Go.Proofs.Ythkiajighmhdoaa
open Go.RowKit Go.Qz Go.Qz.BS Go.Qz.QA
set_option linter.unusedVariables false

theorem headBits (s p : Nat) : ([3, s, p].flatMap (bo · 8)).drop 4 = bo 3 4 ++ (bo s 8 ++ bo p 8) := by
  have h1 : [3, s, p].flatMap (bo · 8) = bo 3 8 ++ (bo s 8 ++ (bo p 8 ++ [])) := rfl
  rw [h1, List.append_nil, List.drop_append_of_le_length (by rw [bo_len]; omega)]
  rfl
theorem headLen (s p : Nat) : ([3, s, p].flatMap (bo · 8)).length = 24 := flat8_len _
theorem tailBits : tl16 = List.replicate 16 false := by decide
theorem rangeB (l : List Bool) : (List.range l.length).map (fun j => Value.bool (nthB l j)) = bvl l := by
  unfold bvl
  apply List.ext_getElem
  · simp
  · intro i h1 h2
    have h3 : i < l.length := by simpa using h1
    simp [nthB_eq h3]
theorem bvl_getD (l : List Bool) (j : Nat) (h : j < l.length) : (bvl l).getD j undef = .bool (nthB l j) := by
  rw [List.getD_eq_getElem?_getD, bvl, List.getElem?_map, List.getElem?_eq_getElem h, nthB_eq h]; rfl
set_option maxRecDepth 100000 in
theorem fits8Big (len c : Nat) (hbig : (2147483647 : Int) < (len : Int)) (A : Option Addr) (w : World) :
    Calls Try.prog 5 #[.slice A len c] w fun e w' => e = .returned (.bool false) ∧ w = w' := by
  go_enter Try.func5, Try.ntmps5
  go_wp2_with fail
  go_ret
  exact ⟨rfl, rfl⟩
set_option maxRecDepth 100000 in
set_option maxHeartbeats 6400000 in
theorem fnQRAppends (w : World) (sq : Int) (hsq : (Lit.int .u8 sq).wf = true) (pr : Int) (hpr : (Lit.int .u8 pr).wf = true) (A : Option Addr) (n c : Nat) (Z : Nat → SegR) (hnc : n ≤ c) (hcm : c ≤ maxLen) (h : SegsR w A n Z) (ver : Int) (hver : (Lit.int .u8 ver).wf = true) (lev : Int) (hlev : (Lit.int .u8 lev).wf = true) :
    Calls Try.prog 3 #[.int .u8 sq, .int .u8 pr, .slice A n c, .int .u8 ver, .int .u8 lev] w fun e w' => e = .returned (.bool true) ∧ Below w.heap.size w w' := by
  have b1 := bd_u8 hsq
  have b2 := bd_u8 hpr
  have b3 := bd_u8 hver
  have b4 := bd_u8 hlev
  obtain ⟨s, rfl⟩ : ∃ s : Nat, sq = s := ⟨sq.toNat, by omega⟩
  obtain ⟨p, rfl⟩ : ∃ p : Nat, pr = p := ⟨pr.toNat, by omega⟩
  obtain ⟨vr, rfl⟩ : ∃ vr : Nat, ver = vr := ⟨ver.toNat, by omega⟩
  obtain ⟨lv, rfl⟩ : ∃ lv : Nat, lev = lv := ⟨lev.toNat, by omega⟩
  have hs : s < 256 := by omega
  have hp : p < 256 := by omega
  have hvr : vr < 256 := by omega
  have hlv : lv < 256 := by omega
  clear hsq hpr hver hlev b1 b2 b3 b4
  have HF := Lib.hid (fits8 n c (Nat.le_trans hnc hcm) Z A w h)
  have HSG := Lib.hid (fun W (hn : n ≤ 2147483647) (hh : SegsR W A n Z) => qrSegments A n c Z W hn hh)
  have H := Lib.hid h
  have HBIG := Lib.hid (Nat.le_trans hnc hcm)
  clear h hnc hcm
  obtain ⟨vn, hvn⟩ : ∃ vn, vn = 1 + vr % 40 := ⟨_, rfl⟩
  obtain ⟨l, hl⟩ : ∃ l, l = lv % 4 := ⟨_, rfl⟩
  have HV := Lib.hid (fun W => qrVersion vr hvr W)
  have HL := Lib.hid (fun W => qrLevel lv hlv W)
  rw [← hvn] at HV
  rw [← hl] at HL
  have hv1 : 1 ≤ vn := by omega
  have hv2 : vn ≤ 40 := by omega
  have hl4 : l < 4 := by omega
  have HB := Lib.hid (And.intro hs (And.intro hp (And.intro hv1 (And.intro hv2 hl4))))
  clear hvn hl hv1 hv2 hl4 hs hp hvr hlv
  by_cases hbig : (2147483647 : Int) < (n : Int)
  · have HG := Lib.hid (fits8Big n c hbig A w)
    clear hbig
    go_enter Try.func3, Try.ntmps3
    go_wp2_with fail
    refine HG.out.mono ?_
    rintro e w1 ⟨rfl, rfl⟩
    go_wp2_with fail
    go_ret
    exact ⟨rfl, Below.refl _ _⟩
  have HN := Lib.hid (show n ≤ 2147483647 by omega)
  clear hbig
  go_enter Try.func3, Try.ntmps3
  go_wp2_with fail
  refine HF.out.mono ?_
  rintro e w1 ⟨⟨r, rfl⟩, hb1⟩
  have HB1 := Lib.hid hb1
  clear hb1 HF HBIG
  cases r with
  | false =>
    go_wp2_with fail
    go_ret
    exact ⟨rfl, HB1.out⟩
  | true =>
  have HSG1 := Lib.hid (HSG.out w1 HN.out (H.out.below HB1.out))
  clear HSG HN H
  go_wp2_with fail
  refine HSG1.out.mono ?_
  rintro e w2 ⟨A2, n2, c2, S, rfl, hn2, hn22, HOK, HSGS, HBE2⟩
  have HN2 := Lib.hid hn2
  have HB2 : Hid (Below w.heap.size w w2) := Lib.hid (HB1.out.trans (HBE2.out.mono HB1.out.size))
  have HST := Lib.hid (stream vn HB.out.2.2.2.1 S HOK.out n2 c2 hn2 hn22 A2 w2 HSGS.out)
  clear HSG1 hn2 HBE2 HB1
  go_wp2_with fail
  refine (HV.out _).mono ?_
  rintro e w3 ⟨rfl, rfl⟩
  go_wp2_with fail
  refine HST.out.mono ?_
  rintro e w4 ⟨x, rfl, hox, hb4⟩
  obtain ⟨A4, c4, rfl, hc4, hm4, hr4⟩ := Rd.of_own hox
  have HR4 : Hid (Rd w4 A4 (stm vn S).length (fun j => .bool (nthB (stm vn S) j))) := Lib.hid (hr4.congr (fun j hj => bvl_getD _ j hj))
  have HB4 : Hid (Below w.heap.size w w4) := Lib.hid (HB2.out.trans (hb4.mono HB2.out.size))
  have HS4 := Lib.hid (HSGS.out.below hb4)
  have hml : (stm vn S).length ≤ 820 * S.length := stm_len vn S HOK.out
  obtain ⟨m, hm⟩ : ∃ m, m = (stm vn S).length := ⟨_, rfl⟩
  rw [← hm] at HR4 ⊢
  have HM := Lib.hid hm
  have hm2000 : m ≤ 1640 := by have := HN2.out; omega
  clear hox hb4 hr4 HST HB2 HSGS hm hml hc4 hm4
  obtain ⟨W5, hW5⟩ : ∃ W5, W5 = w4.alloc (.cells #[.int .u8 3, .int .u8 s, .int .u8 p] 5) := ⟨_, rfl⟩
  have hb5 : Below w4.heap.size w4 W5 := by rw [hW5]; exact (Below.refl _ _).alloc (Nat.le_refl _) _
  have hA5 : Arr W5 5 w4.heap.size [.int .u8 3, .int .u8 s, .int .u8 p] := by rw [hW5]; exact Arr.new _ _ _
  have hr5 : Rd W5 (some ⟨w4.heap.size, 0, none⟩) 3 (fun j => .int .u8 (nth [3, s, p] j : Nat)) := hA5.rd _ (fun j hj => by
    have hj3 : j < 3 := hj
    have : j = 0 ∨ j = 1 ∨ j = 2 := by omega
    rcases this with rfl | rfl | rfl <;> rfl)
  have HBI := Lib.hid (bitsOf [3, s, p] 3 3 rfl (by omega) (fun j => by
    have := HB.out.1
    have := HB.out.2.1
    match j with
    | 0 => show 3 < 256; omega
    | 1 => exact HB.out.1
    | 2 => exact HB.out.2.1
    | j + 3 => show 0 < 256; omega) (some ⟨w4.heap.size, 0, none⟩) W5 hr5)
  have HB5 : Hid (Below w.heap.size w W5) := Lib.hid (HB4.out.trans (hb5.mono HB4.out.size))
  have HR5 := Lib.hid (HR4.out.below hb5)
  have HS5 := Lib.hid (HS4.out.below hb5)
  have HW5 := Lib.hid hW5
  clear hb5 hA5 hr5 hW5 HR4 HS4 HB4
  go_wp2_with fail
  rw [← HW5.out]
  refine HBI.out.mono ?_
  rintro e w6 ⟨x6, rfl, hox6, hb6⟩
  rw [headLen] at hox6
  obtain ⟨A6, c6, rfl, hc6, hm6, _⟩ := Rd.of_own hox6
  obtain ⟨g, rfl, hoff⟩ := Off.of_own (k := 4) hox6 (by omega) (by omega)
  obtain ⟨d6, rfl⟩ : ∃ d, c6 = d + 4 := ⟨c6 - 4, by omega⟩
  obtain ⟨K, hK⟩ : ∃ K, K = W5.heap.size := ⟨_, rfl⟩
  have hoff : Off w6 K 4 (.slice (some ⟨g, 4, none⟩) 20 d6) 20 (bvl (bo 3 4 ++ (bo s 8 ++ bo p 8))) := by
    have h1 : (bvl ([3, s, p].flatMap (bo · 8))).drop 4 = bvl (bo 3 4 ++ (bo s 8 ++ bo p 8)) := by
      rw [← headBits]; unfold bvl; rw [List.map_drop]
    rw [← hK, h1] at hoff
    exact hoff
  have HOF := Lib.hid hoff
  have HKB : Hid (Below K W5 w6) := Lib.hid (by rw [hK]; exact hb6)
  have HKW : Hid (K = W5.heap.size) := Lib.hid hK
  have HB6 : Hid (Below w.heap.size w w6) := Lib.hid (HB5.out.trans (hb6.mono HB5.out.size))
  have HR6 := Lib.hid (HR5.out.below hb6)
  have HWL : Hid (W5.heap.size ≤ w6.heap.size) := Lib.hid hb6.size
  have hc63 : d6 + 4 ≤ 9223372036854775807 := by unfold maxLen at hm6; omega
  have hd4 : 4 ≤ d6 + 4 := by omega
  clear hox6 hb6 hoff HBI HR5 hm6 HW5 hK
  go_wp2_with (at_builtin; refine wpList_copyOff _ _ 26 K 4 (.bool false) 1 (.slice (some ⟨g, 4, none⟩) 20 d6) 20 _ _ _ _ _ rfl rfl rfl rfl Try.underlying26 Try.infoBoolQ rfl (fun j _ => rfl) (by decide) HOF.out HR6.out (by omega) (by rw [HKW.out]; exact HWL.out) ?_)
  intro v7 w7 hof7 hb7
  have HOF7 := Lib.hid hof7
  have HK7 : Hid (Below K W5 w7) := Lib.hid (HKB.out.trans hb7)
  have HB7 : Hid (Below w.heap.size w w7) := Lib.hid (HB5.out.trans (HK7.out.mono (by rw [HKW.out]; exact HB5.out.size)))
  have HKZ : Hid (K ≤ w7.heap.size) := Lib.hid (Nat.le_trans (by rw [HKW.out]; exact HWL.out) hb7.size)
  clear hof7 hb7 HOF HKB HR6 HWL hc6 hd4 hc63 HB6
  go_wp2_with (at_builtin; refine wpList_appendzOff _ _ 26 3 .i64 K 4 (.bool false) 1 v7 (20 + m) _ 16 rfl rfl rfl rfl Try.underlying26 (by kernel_rfl) Try.infoBoolQ rfl rfl (by decide) HOF7.out (by omega) (by omega) HKZ.out ?_)
  intro v8 w8 hof8 hb8
  have hb58 : Below W5.heap.size W5 w8 := by rw [← HKW.out]; exact HK7.out.trans hb8
  have HB8 : Hid (Below w.heap.size w w8) := Lib.hid (HB5.out.trans (hb58.mono HB5.out.size))
  have HS8 := Lib.hid (HS5.out.below hb58)
  obtain ⟨A8, c8, rfl, hc8, hm8, hr8⟩ := hof8.rd
  obtain ⟨T, hT⟩ : ∃ T, T = bo 3 4 ++ (bo s 8 ++ (bo p 8 ++ (stm vn S ++ tl16))) := ⟨_, rfl⟩
  have hval : bvl (bo 3 4 ++ (bo s 8 ++ bo p 8)) ++ ((List.range m).map (fun j => Value.bool (nthB (stm vn S) j)) ++ [Value.bool false, Value.bool false, Value.bool false, Value.bool false, Value.bool false, Value.bool false, Value.bool false, Value.bool false, Value.bool false, Value.bool false, Value.bool false, Value.bool false, Value.bool false, Value.bool false, Value.bool false, Value.bool false]) = bvl T := by
    rw [HM.out, rangeB, hT, tailBits]
    simp [bvl]
  obtain ⟨t, ht⟩ : ∃ t, t = T.length := ⟨_, rfl⟩
  have htm : 20 + m + 16 = t := by
    rw [ht, hT]
    simp only [List.length_append, bo_len, tl16_len]
    have := HM.out; omega
  rw [hval, htm] at hr8
  rw [htm]
  have HR8 : Hid (Rd w8 A8 t (fun j => .bool (nthB T j))) := Lib.hid (hr8.congr (fun j hj => bvl_getD _ j (by rw [← ht]; exact hj)))
  have HBY := Lib.hid (bytesOf T t c8 (t / 8) ht (by omega) rfl A8 w8 HR8.out)
  have HT := Lib.hid hT
  have HTL := Lib.hid ht
  have HTM := Lib.hid htm
  clear hb58 hof8 hb8 HOF7 HK7 HB7 HKZ HS5 HB5 HKW hr8 hval hT ht htm hm2000
  go_wp2_with fail
  refine HBY.out.mono ?_
  rintro e w9 ⟨b9, rfl, HR9, HB9⟩
  have HS9 := Lib.hid (HS8.out.below HB9.out)
  have HBB : Hid (Below w.heap.size w w9) := Lib.hid (HB8.out.trans (HB9.out.mono HB8.out.size))
  have hsl : S.length ≤ 2 := by have := HN2.out; omega
  have hbl : (by8 T).length < 1000000 := by
    have h1 := stm_len vn S HOK.out
    have h2 := HTL.out
    have h3 := HTM.out
    have h4 := HM.out
    rw [by8_len]; omega
  have HQP := Lib.hid (parseQ (by8 T) T rfl hbl S HOK.out hsl s p HB.out.1 HB.out.2.1 vn l HB.out.2.2.1 HB.out.2.2.2.1 HB.out.2.2.2.2 HT.out (some ⟨b9, 0, none⟩) (by8 T).length w9 HR9.out)
  obtain ⟨bn, hbn⟩ : ∃ bn, bn = (by8 T).length := ⟨_, rfl⟩
  rw [← hbn] at HQP ⊢
  clear HBY HR8 HS8 HB8 HR9 HB9 HT HTL HTM hbn hbl hsl HM
  go_wp2_with fail
  refine (HL.out _).mono ?_
  rintro e w3 ⟨rfl, rfl⟩
  go_wp2_with fail
  refine HQP.out.mono ?_
  rintro e w10 ⟨r, A0, n0, c0, V, rfl, ⟨_, Ar, nr, cr, rfl⟩, HOUT, HB10⟩
  have HS10 := Lib.hid (HS9.out.below HB10.out)
  have HB11 : Hid (Below w.heap.size w w10) := Lib.hid (HBB.out.trans (HB10.out.mono HBB.out.size))
  clear HQP HBB HB10 HS9
  obtain ⟨X, hX⟩ : ∃ X, X = bs (txt S) := ⟨_, rfl⟩
  obtain ⟨Y, hY⟩ : ∃ Y, Y = lvName l := ⟨_, rfl⟩
  rw [← hX, ← hY]
  obtain ⟨W2, hW2⟩ : ∃ W2, W2 = w10.alloc (.cells #[.string X, .slice Ar nr cr, .slice A0 n0 c0, .string Y, .int .i64 ((0 : Nat) : Int), .int .i64 s, .int .i64 p, .int .i64 1] 34) := ⟨_, rfl⟩
  have hb2 : Below w10.heap.size w10 W2 := by rw [hW2]; exact (Below.refl _ _).alloc (Nat.le_refl _) _
  have hA2 : Arr W2 34 w10.heap.size [.string X, .slice Ar nr cr, .slice A0 n0 c0, .string Y, .int .i64 0, .int .i64 s, .int .i64 p, .int .i64 1] := by rw [hW2]; exact Arr.new _ _ _
  obtain ⟨E, hE⟩ : ∃ E, E = w10.heap.size := ⟨_, rfl⟩
  rw [← hE] at hA2
  have HW2 : Hid (W2 = w10.alloc (.cells #[.string X, .slice Ar nr cr, .slice A0 n0 c0, .string Y, .int .i64 0, .int .i64 s, .int .i64 p, .int .i64 1] 34)) := Lib.hid hW2
  have HEE := Lib.hid hE
  have HB12 : Hid (Below w.heap.size w W2) := Lib.hid (HB11.out.trans (hb2.mono HB11.out.size))
  have HSA := Lib.hid (says S HOK.out n2 c2 HN2.out hn22 A2 l HB.out.2.2.2.2 Ar nr cr A0 n0 c0 V 0 s p 1 W2.drew (HS10.out.below hb2.drew) (HOUT.out.below hb2.drew))
  rw [← hX, ← hY] at HSA
  have d0 := hA2.cell? 0
  have d1 := hA2.cell? 1
  have d2 := hA2.cell? 2
  have d3 := hA2.cell? 3
  have d4 := hA2.cell? 4
  have d5 := hA2.cell? 5
  have d6 := hA2.cell? 6
  have d7 := hA2.cell? 7
  simp only [List.getElem?_cons_zero, List.getElem?_cons_succ] at d0 d1 d2 d3 d4 d5 d6 d7
  have hs := HB.out.1
  have hp := HB.out.2.1
  clear hW2 hE hb2 hA2 hX hY HS10 HOUT HB11
  go_upto_region 11 with (fail)
  rw [← HW2.out, ← HEE.out]
  have hw1 : IntKind.i64.wrap (s : Int) = (s : Int) := by rw [IntKind.wrap_i64]; omega
  have hw2 : IntKind.i64.wrap (p : Int) = (p : Int) := by rw [IntKind.wrap_i64]; omega
  clear HEE HW2
  go_region_law (first | (go_simp; go_at_call 12; refine (HL.out _).mono ?_; rintro e w3 ⟨rfl, rfl⟩) | (go_simp; go_at_call 13; refine HSA.out.mono ?_; rintro e w12 ⟨rfl, hb12⟩))
  all_goals
    go_wp2_with fail
    go_ret
    exact ⟨rfl, HB12.out.drew.trans (hb12.mono (show w.heap.size ≤ W2.drew.heap.size from HB12.out.size))⟩
end Go.Proofs.Ythkiajighmhdoaa
