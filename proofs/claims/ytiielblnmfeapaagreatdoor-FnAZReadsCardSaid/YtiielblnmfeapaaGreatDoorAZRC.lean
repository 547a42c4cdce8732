/-
  FnAZReads, walked: a symbol is read as the text of its message. No condition beyond the bounds that each theorem states.
-/
import Derived.Test.YtiielblnmfeapaaGreatDoorAZRB
import Derived.Test.YtiielblnmfeapaaGreatDoorAZLB
import Derived.Test.YtiielblnmfeapaaGreatDoorAZJ
import Derived.Test.YtiielblnmfeapaaGreatDoorRDM
import Derived.Test.YtiielblnmfeapaaGreatDoorRSG9
import Derived.BigQuiet
namespace Go.Proofs.YtiielblnmfeapaaGreatDoor
open Go.RowKit Go.Qz Go.Qz.AZ Go.Qz.RS
set_option linter.unusedVariables false

theorem bits31 : bitsOf 31 5 = List.replicate 5 true := by decide
theorem bits15 : bitsOf 15 4 = List.replicate 4 true := by decide
theorem ones_split {t k : Nat} (h : k ≤ t) : List.replicate t true = List.replicate k true ++ List.replicate (t - k) true := by
  rw [List.replicate_append_replicate]; congr 1; omega
theorem ones_at (t j : Nat) (h : j < t) : nthB (List.replicate t true) j = true := by
  rw [nthB_eq (by simpa using h)]; simp
theorem stop_bin {t : Nat} (h : t < 13) : Stop 5 (List.replicate t true) := by
  by_cases h5 : t < 5
  · exact .inr (.inr (.inl ⟨rfl, by simpa using h5⟩))
  · exact .inr (.inr (.inr ⟨rfl, by simp; omega, by simpa using h, fun j hj => ones_at t j (by omega)⟩))
theorem stop_txt {m t : Nat} (hm : m < 5) (h : t < wd m) : Stop m (List.replicate t true) := .inr (.inl ⟨hm, by simpa using h⟩)
/-- Ones behind the last thing: steps that say nothing, and too little for one more. -/
theorem ones_low {m : Nat} (hm : m = 0 ∨ m = 1 ∨ m = 2) (t : Nat) (ht : t < 18) : ∃ ms bs fa fs tail, List.replicate t true = bs ++ tail ∧ Runs (m, m) ms bs [] (fa, fs) ∧ Stop fs tail := by
  have hwd : wd m = 5 := by unfold wd; rw [if_neg (by omega)]
  by_cases h5 : t < 5
  · exact ⟨[], [], m, m, _, rfl, .nil _, stop_txt (by omega) (by rw [hwd]; exact h5)⟩
  · have hsh : shTo m 31 = some 5 := by rcases hm with rfl | rfl | rfl <;> rfl
    have h1 := Runs.one (la := m) (sh := m) (m := .sh 31) (s1 := (m, 5)) ⟨5, hsh, rfl⟩
    refine ⟨[.sh 31], bitsOf 31 5, m, 5, List.replicate (t - 5) true, by rw [bits31]; exact ones_split (by omega), ?_, stop_bin (by omega)⟩
    have e : en m (.sh 31) = bitsOf 31 5 := by show bitsOf 31 (wd m) = _; rw [hwd]
    rw [e] at h1
    exact h1
theorem ones_stop (m : Nat) (hm : m < 5) (t : Nat) (ht : t ≤ 12) : ∃ ms bs fa fs tail, List.replicate t true = bs ++ tail ∧ Runs (m, m) ms bs [] (fa, fs) ∧ Stop fs tail := by
  have h5 : (m = 0 ∨ m = 1 ∨ m = 2) ∨ m = 3 ∨ m = 4 := by omega
  rcases h5 with h5 | rfl | rfl
  · exact ones_low h5 t (by omega)
  · by_cases h : t < 5
    · exact ⟨[], [], 3, 3, _, rfl, .nil _, stop_txt (by omega) h⟩
    · obtain ⟨ms, bs, fa, fs, tail, h1, h2, h3⟩ := ones_low (m := 0) (.inl rfl) (t - 5) (by omega)
      have h0 := Runs.one (la := 3) (sh := 3) (m := .lat 31) (s1 := (0, 0)) ⟨0, rfl, rfl⟩
      refine ⟨[.lat 31] ++ ms, bitsOf 31 5 ++ bs, fa, fs, tail, ?_, h0.trans h2, h3⟩
      rw [ones_split (show 5 ≤ t by omega), h1, ← bits31, List.append_assoc]
  · by_cases h : t < 4
    · exact ⟨[], [], 4, 4, _, rfl, .nil _, stop_txt (by omega) h⟩
    · have h0 := Runs.one (la := 4) (sh := 4) (m := .sh 15) (s1 := (4, 0)) ⟨0, rfl, rfl⟩
      by_cases h9 : t - 4 < 5
      · exact ⟨[.sh 15], bitsOf 15 4, 4, 0, List.replicate (t - 4) true, by rw [bits15]; exact ones_split (by omega), h0, stop_txt (by omega) h9⟩
      · have h1 := Runs.one (la := 4) (sh := 0) (m := .sh 31) (s1 := (0, 5)) ⟨5, rfl, rfl⟩
        refine ⟨[.sh 15] ++ [.sh 31], bitsOf 15 4 ++ bitsOf 31 5, 0, 5, List.replicate (t - 4 - 5) true, ?_, h0.trans h1, stop_bin (by omega)⟩
        rw [bits15, bits31, List.append_assoc, ← ones_split (show 5 ≤ t - 4 by omega), ← ones_split (show 4 ≤ t by omega)]
theorem sym_at {z : Nat → Nat} {n : Nat} {cm : Bool} {l : Nat} {bits : List Bool} {ws L T : List Nat} (h : SymOf z n cm l bits ws L T) : At (unst (wOf l) ws) T 0 0 0 [] := by
  obtain ⟨ms, mode, hm, hr⟩ := h.runs
  obtain ⟨k, hs, h1, h2⟩ := h.stuff
  have hw4 : 4 ≤ wOf l := by have := wOf_cases l; omega
  have hu := hs.all hw4 h1
  obtain ⟨ms2, bs2, fa, fs, tail, e, hr2, hst⟩ := ones_stop mode hm (k - bits.length) (by omega)
  refine ⟨ms ++ ms2, bits ++ bs2, T, fa, fs, tail, ?_, ?_, hst, rfl, Nat.zero_le _⟩
  · have := hr.trans hr2
    rwa [List.append_nil] at this
  · rw [List.drop_zero, hu, e, List.append_assoc]
theorem sym_len {z : Nat → Nat} {n : Nat} {cm : Bool} {l : Nat} {bits : List Bool} {ws L T : List Nat} (h : SymOf z n cm l bits ws L T) (hl : l < 33) : 5 ≤ (unst (wOf l) ws).length ∧ (unst (wOf l) ws).length < 100000 := by
  have hcs := wOf_cases l
  have hp := h.pos
  have hw4 : 4 ≤ wOf l := by omega
  constructor
  · have h1 := offU_le (wOf l) ws 1
    have h2 := offU_succ (wOf l) ws 0 hp
    rw [offU_zero, Nat.zero_add] at h2
    have h3 := unW_len hw4 (nth ws 0)
    by_cases h9 : nth ws 0 = 1 ∨ nth ws 0 = 2 ^ wOf l - 2
    · have := h3.1 h9; omega
    · have := h3.2 h9; omega
  · have h5 := offU_bd hw4 ws ws.length (Nat.le_refl _)
    rw [offU_all] at h5
    have h6 := h.room
    have h7 := (allOf_ok cm l hl).1
    have h8 : wOf l * ws.length ≤ 12 * 1664 := Nat.mul_le_mul (by omega) (by omega)
    omega

/-- What the words of a symbol give the decoder. -/
theorem sym_sent {z : Nat → Nat} {n : Nat} {cm : Bool} {l : Nat} {bits : List Bool} {ws L T : List Nat} (h : SymOf z n cm l bits ws L T) (hl : l < 33) :
    L.length = allOf cm l ∧ (∃ Y J, Sent (fdOf (wOf l)) (allOf cm l - ws.length) (allOf cm l) L L J Y) ∧ (∀ j, nth L j < 2 ^ wOf l) ∧ (∀ i, i < ws.length → nth L i = nth ws i ∧ 0 < nth ws i ∧ nth ws i < 2 ^ wOf l - 1) := by
  have hcs := wOf_cases l
  obtain ⟨hsx, hFs⟩ := fdOf_six hcs
  obtain ⟨hal1, hal2⟩ := allOf_ok cm l hl
  have hroom := h.room
  have hpos := h.pos
  have hcode := h.code
  have hLl : L.length = allOf cm l := by rw [hcode.len]; omega
  obtain ⟨J, Y, nd, hJl, hJn, hYl, hY0, hrcv⟩ := rcv_of hsx (L := L) (R := L) (H := []) hcode.el hcode.el rfl (fun k _ _ => rfl)
  refine ⟨hLl, ⟨Y, J, ?_⟩, fun j => by rw [← hFs]; exact hcode.el j, fun i hi => ?_⟩
  · have hJ0 : J.length = 0 := by simpa using hJl
    exact ⟨by omega, by omega, by rw [hFs]; omega, hYl, hY0, hcode.el, hcode.el, nd, hJn, by omega, hLl.symm, by omega, by rw [hFs]; omega, hcode.root, hrcv⟩
  · obtain ⟨kk, hst, _, _⟩ := h.stuff
    have h4 := (hst.un (by omega)).2.2.2
    have h6 := h4 (nth ws i) (by rw [nth_eq hi]; exact List.getElem_mem hi)
    refine ⟨?_, h6⟩
    have h7 := hcode.pre
    rw [← h7]
    unfold nth
    rw [List.getD_eq_getElem?_getD, List.getD_eq_getElem?_getD, List.getElem?_take, if_pos hi]
/-- The bits that are laid. -/
def laidBits (cm : Bool) (l : Nat) (L : List Nat) : List Bool := List.replicate (bitsIn cm l % wOf l) false ++ L.flatMap (bitsOf · (wOf l))
theorem laid_len {cm : Bool} {l : Nat} {L : List Nat} (h : L.length = allOf cm l) : (laidBits cm l L).length = bitsIn cm l ∧ bitsIn cm l = bitsIn cm l % wOf l + allOf cm l * wOf l := by
  have h2 : bitsIn cm l = bitsIn cm l % wOf l + allOf cm l * wOf l := by
    unfold allOf; rw [Nat.mul_comm]; exact (Nat.mod_add_div _ _).symm
  refine ⟨?_, h2⟩
  unfold laidBits
  rw [List.length_append, List.length_replicate, flat_len, h, Nat.mul_comm]
  exact h2.symm

set_option maxRecDepth 100000 in
set_option maxHeartbeats 6400000 in
theorem azDecode {z : Nat → Nat} {n : Nat} {cm : Bool} {l : Nat} {mbits : List Bool} {ws L T : List Nat} (hS : SymOf z n cm l mbits ws L T) (hl1 : 1 ≤ l) (hl : l ≤ 32) (f : Nat → Nat → Bool)
    (hf : Holds cm l (nthB (laidBits cm l L)) (fun x y => f y x) (off cm l l)) (A : Option Addr) (c : Nat) (w : World) (h : Rows2 w A (whole cm l) (whole cm l) f) :
    Calls Tryz.prog 6 #[.slice A (whole cm l) c, .bool cm, .int .i64 ws.length, .int .i64 l] w (SaidPost (strB T) w) := by
  obtain ⟨hLl, ⟨Y, J, hsent⟩, hLb, hwsx⟩ := sym_sent hS (by omega)
  obtain ⟨hbl, hbd⟩ := laid_len hLl
  have hcs := wOf_cases l
  have hWb := whole_le cm l hl
  have hneq : ∀ W, (binOp .neq 44 .nilIface .nilIface).run Tryz.prog W = .ok (.bool false) W := fun W => rfl
  obtain ⟨Wh, hWh⟩ : ∃ Wh, Wh = whole cm l := ⟨_, rfl⟩
  have HGR := Lib.hid (fun W hW => gridP Wh Wh (by omega) (by omega) (by omega) (by omega) f A c W hW)
  rw [← hWh] at h ⊢
  have hb0 : Below w.heap.size w (w.alloc (.cells zD.toArray 29)) := (Below.refl _ _).alloc (Nat.le_refl _) _
  have hZ := Arr.new w 29 zD
  obtain ⟨W1, hW1⟩ : ∃ W1, W1 = w.alloc (.cells zD.toArray 29) := ⟨_, rfl⟩
  rw [← hW1] at hb0 hZ
  unfold zD at hW1
  obtain ⟨E, hE⟩ : ∃ E, E = w.heap.size := ⟨_, rfl⟩
  rw [← hE] at hZ
  have HR := Lib.hid (h.below hb0)
  have HB0 := Lib.hid hb0
  have HZ := Lib.hid hZ
  have HE := Lib.hid hE
  have HS := Lib.hid hS
  have HF := Lib.hid hf
  have HSENT := Lib.hid hsent
  have HLB := Lib.hid hLb
  have HWSX := Lib.hid hwsx
  have HBL := Lib.hid (And.intro hbl hbd)
  have HWH := Lib.hid hWh
  have HLL := Lib.hid hLl
  obtain ⟨m, hm⟩ : ∃ m, m = ws.length := ⟨_, rfl⟩
  rw [← hm]
  have HM := Lib.hid hm
  clear h hb0 hZ hS hf hsent hLb hwsx hbl hbd hWh hLl hm hcs
  go_enter Tryz.func6, Tryz.ntmps6
  go_wp2_with fail
  rw [← hW1, ← hE]
  clear hW1 hE
  refine (HGR.out W1 HR.out).mono ?_
  rintro e w1 ⟨p, g, wm, rfl, HBM, HMB, hb1, hp, hg⟩
  have HB1 := Lib.hid hb1
  have HPG := Lib.hid (And.intro hp hg)
  clear hb1 hp hg HGR HR
  go_wp2_with fail
  refine (decNew w1).mono ?_
  rintro e w2 ⟨D0, rfl, hD0, hb2, hD0l⟩
  have HD0 := Lib.hid hD0
  have HB2 := Lib.hid hb2
  have HDL := Lib.hid hD0l
  clear hD0 hb2 hD0l
  go_wp2_with fail
  refine (azDet2 _ cm m l w2).mono ?_
  rintro e w3 ⟨R0, d0, rfl, hR0, hd0, hb3, hR0l, hd0l⟩
  have HD03 := Lib.hid (HD0.out.below hb3 HD0.out.lt)
  have HBM3 := Lib.hid ((HBM.out.below HB2.out HBM.out.plt HBM.out.glt).below hb3 (Nat.lt_of_lt_of_le HBM.out.plt HB2.out.size) (Nat.lt_of_lt_of_le HBM.out.glt HB2.out.size))
  have HDEC : Hid (Calls Tryz.prog 15 #[.pointer (some ⟨D0, 0, none⟩), .pointer (some ⟨R0, 0, none⟩)] w3 (DecodePost D0 (strB T) w3)) := Lib.hid (by
    have hDl := HD0.out.lt
    have hDg := HDL.out
    have hpl := HBM.out.plt
    have hgl := HBM.out.glt
    obtain ⟨hu5, hub⟩ := sym_len HS.out (by omega)
    have hHE : (laidBits cm l L).length = off cm l l := by rw [HBL.out.1, off_l]; rfl
    refine decodeAZ (laidBits cm l L) (unst (wOf l) ws) T D0 R0 d0 p (.bool cm) (.int .i64 m) (.int .i64 l) (fun W => BM W p g wm Wh Wh) w3 (fun W W' hm hG => hG.mod hm (by omega) (by omega)) HD03.out hR0 hd0 (by omega) (by omega) HBM3.out ?_ ?_ ?_ (by omega) (by omega)
    · intro W hD hR hG
      rw [HWH.out] at hG
      refine extractBits cm l hl1 hl (laidBits cm l L) hHE p g wm D0 R0 _ _ W hD hR hG (fun i k j q hi hk hj hq => ?_)
      have hml := m_lt (c := cm) hi hk hj hq
      have hxl := plc_lt hml.1
      have hyl := plc_lt hml.2
      have h8 := HMB.out (plc cm l (mx cm l i k j q)) (plc cm l (my cm l i k j q)) (by rw [HWH.out]; omega) (by rw [HWH.out]; exact hyl)
      rw [HWH.out, decide_eq_true hxl, Bool.true_and] at h8
      rw [h8]
      have h9 := Go.Qz.AZ.at_lt (c := cm) (l := l) (i := i) hk hj hq
      have h10 := off_mono (c := cm) (l := l) hi
      exact HF.out i k j q hi hk hj hq (by omega)
    · intro A W hD hR hA
      have hbd := HBL.out.2
      refine correctBits l (wOf l) rfl hl (fdOf (wOf l)) rfl (laidBits cm l L) (laidBits cm l L).length (allOf cm l) (bitsIn cm l % wOf l) m rfl (by rw [HBL.out.1]; exact hbd) (Nat.mod_lt _ (by have := wOf_cases l; omega)) L L J ws Y (by rw [HM.out]; exact HSENT.out) (fun i hi => ?_) HM.out (by rw [HM.out]; exact HS.out.room) (fun i hi => HWSX.out i (by rw [← HM.out]; exact hi)) D0 R0 _ _ A _ W hD hR hA
      have h5 := vl_word (List.replicate (bitsIn cm l % wOf l) false) L (wOf l) HLB.out i (by rw [HLL.out]; exact hi)
      rw [List.length_replicate] at h5
      exact h5
    · intro A c W hA
      exact encodedData _ (unst (wOf l) ws) T A _ c rfl hu5 (by omega) (sym_at HS.out) ⟨by have := HS.out.tl; omega, HS.out.t128⟩ W hA)
  have HB3 : Hid (Below w1.heap.size w1 w3) := Lib.hid (HB2.out.trans (hb3.mono HB2.out.size))
  have HD3l := Lib.hid (And.intro HDL.out (Nat.lt_of_lt_of_le HD0.out.lt hb3.size))
  obtain ⟨sT, hsT⟩ : ∃ s, s = strB T := ⟨_, rfl⟩
  rw [← hsT] at HDEC
  have HST := Lib.hid hsT
  clear hR0 hd0 hb3 hR0l hd0l HBM HMB HB2 HDL HD0 HD03 HBM3 HF HSENT HLB HWSX HBL HLL HPG HS HWH HM hsT
  go_wp2_with fail
  refine HDEC.out.mono ?_
  rintro e w4 ⟨q, b, k, nb, fb, level, rfl, HDR, HRB, hk, HM4⟩
  have HB4 : Hid (Below w1.heap.size w1 w4) := Lib.hid (HB3.out.trans (HM4.out.below (by exact HB3.out.size) (fun j hj => by rw [hj]; exact HD3l.out.1)))
  have HSD := Lib.hid (decodedNil (some ⟨b, 0, none⟩) k k fb hk q w4 HDR.out HRB.out)
  clear HDEC HB3 HD3l HM4 HDR HRB
  go_wp2_with fail
  refine HSD.out.mono ?_
  rintro e w5 ⟨r, sg, lv, x1, x2, x3, x4, rfl, hone, hb5⟩
  have HZ5 := Lib.hid (((HZ.out.below HB1.out HZ.out.lt).below HB4.out (Nat.lt_of_lt_of_le HZ.out.lt HB1.out.size)).below hb5 (Nat.lt_of_lt_of_le (Nat.lt_of_lt_of_le HZ.out.lt HB1.out.size) HB4.out.size))
  have HB5 : Hid (Below w.heap.size w w5) := Lib.hid (((HB0.out.trans (HB1.out.mono HB0.out.size)).trans (HB4.out.mono (Nat.le_trans HB0.out.size HB1.out.size))).trans (hb5.mono (Nat.le_trans (Nat.le_trans HB0.out.size HB1.out.size) HB4.out.size)))
  have HONE := Lib.hid hone
  clear hone hb5 HSD HB4 HB1 HZ
  go_wp2_with (refine wpList_store_row rfl 29 (.tmp 8) (.tmp 30) rfl E #[.string sT, r, sg, lv, x1, x2, x3, x4] rfl rfl 29 _ HZ5.out infoD rfl HONE.out ?_)
  have hA := setRow_heap w5 E _ #[.string sT, r, sg, lv, x1, x2, x3, x4] _ _ HZ5.out
  have hM : Below w.heap.size w (w5.setRow E #[.string sT, r, sg, lv, x1, x2, x3, x4]) := HB5.out.trans ((Mod.setRow w5 E _).below HB5.out.size (fun k hk => by rw [hk, HE.out]; exact Nat.le_refl _))
  go_wp2_with fail
  refine bodyPost_ret (v := .tuple #[.agg #[.string sT, r, sg, lv, x1, x2, x3, x4], .bool true]) (results_cellD (p := 8) (q := 9) (ty := 29) (tq := 4) (by kernel_rfl) _ _ E 29 _ _ rfl hA Tryz.underlying29 rfl infoD) rfl ?_
  rw [← HST.out]
  exact ⟨_, _, _, _, _, _, _, rfl, HONE.out, hM⟩

theorem rows2G {w : World} {G H W : Nat} {f : Nat → Nat → Bool} (h : Grid w 35 4 G H W H (fun r c => .bool (f r c))) : Rows2 w (some ⟨G, 0, none⟩) H W f := fun h0 =>
  ⟨G, 0, rfl, h.hd.lt, fun r hr => ⟨some ⟨G + 1 + r, 0, none⟩, W, by rw [Nat.zero_add]; exact h.head r hr hr, fun h1 => ⟨G + 1 + r, 0, rfl, (h.row r hr).lt, fun c hc => by rw [Nat.zero_add]; exact h.cell r c hr hc⟩⟩⟩
theorem layOf_le (c : Bool) (n : Nat) : layOf c n ≤ 32 ∧ 1 ≤ layOf c n := by
  unfold layOf
  cases c
  · simp; omega
  · simp; omega
set_option maxRecDepth 100000 in
set_option maxHeartbeats 6400000 in
theorem fnAZReads (w : World) (A : Option Addr) (n c : Nat) (z : Nat → Int) (hnc : n ≤ c) (hcm : c ≤ maxLen) (hz : ∀ j, j < n → (Lit.int .u8 (z j)).wf = true) (h : Rd w A n (fun j => .int .u8 (z j))) (cm : Bool) (b : Int) (hb : (Lit.int .u8 b).wf = true) :
    Calls Tryz.prog 3 #[.slice A n c, .bool cm, .int .u8 b] w fun e w' => e = .returned (.bool true) ∧ Below w.heap.size w w' := by
  unfold maxLen at hcm
  by_cases hbig : (2147483647 : Int) < n
  · clear hz h hb
    go_enter Tryz.func3, Tryz.ntmps3
    go_wp2_with fail
    go_ret
    exact ⟨rfl, Below.refl _ _⟩
  obtain ⟨bn, rfl⟩ : ∃ bn : Nat, b = (bn : Int) := ⟨b.toNat, by have := bd_u8 hb; omega⟩
  have hbn : bn < 256 := by have := bd_u8 hb; omega
  obtain ⟨zn, hzn⟩ : ∃ zn : Nat → Nat, zn = fun j => (z j).toNat := ⟨_, rfl⟩
  have hzb : ∀ j, j < n → zn j < 256 := fun j hj => by
    rw [hzn]; have := bd_u8 (hz j hj); show (z j).toNat < 256; omega
  have hr : Rd w A n (fun j => .int .u8 (zn j : Nat)) := h.congr fun j hj => by
    rw [hzn]; have := bd_u8 (hz j hj); show _ = Value.int .u8 (((z j).toNat : Nat) : Int); rw [show (((z j).toNat : Nat) : Int) = z j by omega]
  obtain ⟨l, hl⟩ : ∃ l, l = layOf cm bn := ⟨_, rfl⟩
  obtain ⟨hl32, hl1⟩ : l ≤ 32 ∧ 1 ≤ l := by rw [hl]; exact layOf_le _ _
  have HLAY := azLayers cm bn hbn w
  rw [← hl] at HLAY
  have HLAY := Lib.hid HLAY
  have HSYM := Lib.hid (azSymbol zn n cm l hl32 A c hnc (by omega) (by omega) hzb w hr)
  clear hz h hb hzn hzb hr hl hbn
  go_enter Tryz.func3, Tryz.ntmps3
  go_wp2_with fail
  refine HLAY.out.mono ?_
  rintro e w1 ⟨rfl, rfl⟩
  go_wp2_with fail
  refine HSYM.out.mono ?_
  rintro e w1 ⟨v, m, T, bv, rfl, hsym, hb1⟩
  obtain ⟨sT, hsT⟩ : ∃ sT, sT = strB T := ⟨_, rfl⟩
  rw [← hsT]
  have HB1 := Lib.hid hb1
  cases bv with
  | false =>
    clear hsym hb1 hsT
    go_wp2_with fail
    go_ret
    exact ⟨rfl, HB1.out⟩
  | true =>
    obtain ⟨bits, ws, L, hS, rfl, hO⟩ := hsym rfl
    obtain ⟨hLl, _, hLb, _⟩ := sym_sent hS (by omega)
    obtain ⟨A3, c3, rfl, hc3, hr3⟩ := OwnI.rd hO
    have h212 : 2 ^ wOf l ≤ 4096 := Nat.pow_le_pow_right (n := 2) (i := wOf l) (j := 12) (by omega) (by have := wOf_cases l; omega)
    have HAL := Lib.hid (azLay cm l hl1 hl32 L (fun j => by have := hLb j; omega) (by rw [hLl]; rfl) A3 c3 w1 hr3)
    have HDEC := Lib.hid (fun f hf A c W hR => azDecode hS hl1 hl32 f hf A c W hR)
    have HST := Lib.hid hsT
    obtain ⟨Ll, hLl2⟩ : ∃ x, x = L.length := ⟨_, rfl⟩
    rw [← hLl2] at HAL ⊢
    obtain ⟨m, hm⟩ : ∃ x, x = ws.length := ⟨_, rfl⟩
    rw [← hm] at HDEC ⊢
    rw [← hsT] at HDEC
    unfold LayPost at HAL
    obtain ⟨Wh, hWh⟩ : ∃ x, x = whole cm l := ⟨_, rfl⟩
    rw [← hWh] at HAL HDEC
    have HB1S := Lib.hid hb1.size
    clear hsym hb1 hsT hS hO hLl hLb hr3 hc3 h212 hLl2 hm hWh HSYM HLAY
    go_wp2_with fail
    refine HAL.out.mono ?_
    rintro e w2 ⟨G, g, rfl, HG, HH, HB2⟩
    have HD2 := Lib.hid (HDEC.out (fun y x => g x y) HH.out (some ⟨G, 0, none⟩) Wh w2 (rows2G HG.out))
    have HB22 : Hid (Below w.heap.size w w2) := Lib.hid (HB1.out.trans (HB2.out.mono HB1S.out))
    clear HAL HDEC HG HH HB2
    go_wp2_with fail
    refine HD2.out.mono ?_
    rintro e w3 ⟨r, sg, lv, x1, x2, x3, x4, rfl, hone, hb3⟩
    have HB3 : Hid (Below w.heap.size w w3) := Lib.hid (HB22.out.trans (hb3.mono HB22.out.size))
    have hA := setRow_heap (w3.alloc (.cells zD.toArray 29)) w3.heap.size _ #[.string sT, r, sg, lv, x1, x2, x3, x4] _ _ (Arr.new w3 29 zD)
    have hc : ((w3.alloc (.cells zD.toArray 29)).setRow w3.heap.size #[.string sT, r, sg, lv, x1, x2, x3, x4]).cell? ⟨w3.heap.size, 0, none⟩ = some (.string sT) := by
      rw [cell_of_row _ _ _ _ _ _ hA]; rfl
    have HB4 : Hid (Below w.heap.size w ((w3.alloc (.cells zD.toArray 29)).setRow w3.heap.size #[.string sT, r, sg, lv, x1, x2, x3, x4])) := Lib.hid ((HB3.out.alloc HB3.out.size _).trans ((Mod.setRow _ w3.heap.size _).below (by have := HB3.out.size; simp; omega) (fun k hk => by rw [hk]; exact HB3.out.size)))
    have HZ3 := Lib.hid (Arr.new w3 29 zD)
    unfold zD at hc
    have HONE := Lib.hid hone
    clear hone hb3 HD2 hA
    go_wp2_with (refine wpList_store_row rfl 29 (.tmp 12) (.tmp 40) rfl w3.heap.size #[.string sT, r, sg, lv, x1, x2, x3, x4] rfl rfl 29 _ HZ3.out infoD rfl HONE.out ?_)
    go_ret
    exact ⟨rfl, HB4.out⟩
end Go.Proofs.YtiielblnmfeapaaGreatDoor
