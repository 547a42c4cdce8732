/-
  FnBIGrids, walked: for every input the law returns true. No condition beyond what the statement's own domain gives.
-/
import Derived.Test.YtcfcbcjaiplllaaBHD
import Derived.Test.YtcfcbcjaiplllaaBGY
import Derived.Test.YtcfcbcjaiplllaaBGT
import Derived.Deep.RegionHeld3
import Derived.BigQuiet
import Derived.Deep.RegionHeld3
namespace Go.Proofs.Ytcfcbcjaiplllaa
open Go.RowKit Go.Qz
set_option linter.unusedVariables false

def TrueEnd (w : World) (e : Ending) (w' : World) : Prop := e = .returned (.bool true) ∧ Below w.heap.size w w'
set_option maxRecDepth 100000 in
set_option maxHeartbeats 6400000 in
theorem biSameRows (H W c d : Nat) (f : Nat → Nat → Bool) (A B : Option Addr) (hH : H < 100000) (hW : W < 100000) (w : World) (hA : Rows2 w A H W f) (hB : Rows2 w B H W f) :
    Calls Try.prog 17 #[.slice A H c, .slice B H d] w (TrueEnd w) := by
  have HA := Lib.hid hA
  have HB := Lib.hid hB
  clear hA hB
  go_enter Try.func17, Try.ntmps17
  go_wp2_with fail
  go_loopw [5] (fun i wr => ∃ k : Nat, k ≤ H ∧ i = .int .i64 k ∧ Hid (Below w.heap.size w wr)) (fun i _ => H - (intOf i).toNat)
  case atStart => exact ⟨0, by omega, rfl, Lib.hid (Below.refl _ _)⟩
  case round =>
    obtain ⟨wo, hwo⟩ : ∃ wo, wo = wr := ⟨_, rfl⟩
    rw [← hwo] at hrel ⊢
    clear hwo
    obtain ⟨k, hk, rfl, HBo⟩ := hrel
    by_cases hlt : k < H
    · have hk0 : (0 : Int) ≤ (k : Int) := by omega
      have hk1 : (k : Int) < (H : Int) := by omega
      obtain ⟨ab, ao, rfl, hab, har⟩ := HA.out (by omega)
      obtain ⟨bb, bo, rfl, hbb, hbr⟩ := HB.out (by omega)
      obtain ⟨Ra, Ca, hra, hda⟩ := har k hlt
      obtain ⟨Rb, Cb, hrb, hdb⟩ := hbr k hlt
      have HX : Hid (∀ w9, w9.cell? ⟨ab, ao + k, none⟩ = some (.slice Ra W Ca) ∧ w9.cell? ⟨bb, bo + k, none⟩ = some (.slice Rb W Cb) ∧ Hid (Below w.heap.size w w9) → Calls Try.prog 11 #[.slice Ra W Ca, .slice Rb W Cb] w9 (fun e w' => e = .returned (.bool true) ∧ (w'.cell? ⟨ab, ao + k, none⟩ = some (.slice Ra W Ca) ∧ w'.cell? ⟨bb, bo + k, none⟩ = some (.slice Rb W Cb) ∧ Hid (Below w.heap.size w w')))) := Lib.hid (fun w9 h9 => by
        refine (biSameBits (f k) Ra Rb W Ca Cb hW w9 (hda.below h9.2.2.out) (hdb.below h9.2.2.out)).mono ?_
        rintro e w' ⟨rfl, hb⟩
        have h8 : Below w.heap.size w w' := h9.2.2.out.trans (hb.mono h9.2.2.out.size)
        exact ⟨rfl, (h8.cell (p := ⟨ab, ao + k, none⟩) hab).trans hra, (h8.cell (p := ⟨bb, bo + k, none⟩) hbb).trans hrb, Lib.hid h8⟩)
      have hs0 : wo.drew.cell? ⟨ab, ao + k, none⟩ = some (.slice Ra W Ca) ∧ wo.drew.cell? ⟨bb, bo + k, none⟩ = some (.slice Rb W Cb) ∧ Hid (Below w.heap.size w wo.drew) := ⟨(HBo.out.drew.cell (p := ⟨ab, ao + k, none⟩) hab).trans hra, (HBo.out.drew.cell (p := ⟨bb, bo + k, none⟩) hbb).trans hrb, Lib.hid HBo.out.drew⟩
      clear har hbr hda hdb hra hrb
      go_wp2_with fail
      go_region_held3 (fun w' => w'.cell? ⟨ab, ao + k, none⟩ = some (.slice Ra W Ca) ∧ w'.cell? ⟨bb, bo + k, none⟩ = some (.slice Rb W Cb) ∧ Hid (Below w.heap.size w w'))
        (first | exact hs0 | exact hs3)
        (first | (go_at_call 11; refine (HX.out _ (by assumption)).mono ?_; rintro e w3 ⟨rfl, hs3⟩))
      all_goals
        have HB3 : Hid (Below w.heap.size w w3) := hs3.2.2
        clear hs0 hs3 HX
        go_wp2_with fail
        go_roundw
        case rel => exact ⟨k + 1, by omega, by go_num, HB3⟩
        case measure => simp [intOf]; omega
    · obtain rfl : k = H := by omega
      go_wp2_with fail
      go_ret
      exact ⟨rfl, HBo.out⟩


theorem runS_lt : ∀ (l : List Stp) (P : Pic), P.W < 1000 → P.H < 1000 → (runS l P).W < 1000 ∧ (runS l P).H < 1000
  | [], P, h1, h2 => ⟨h1, h2⟩
  | s :: l, P, h1, h2 => runS_lt l (s.run P) (by show (if s.op = 8 then P.H else P.W) < 1000; split <;> assumption) (by show (if s.op = 8 then P.W else P.H) < 1000; split <;> assumption)
def FitsEnd (P : Prop) (w : World) (e : Ending) (w' : World) : Prop := ∃ r : Bool, e = .returned (.bool r) ∧ (r = true → P) ∧ Below w.heap.size w w'
set_option maxRecDepth 100000 in
theorem zzFits4 (s : Raw) (hs : s.n ≤ s.c) (w : World) : Calls Try.prog 26 #[.agg s.cells.toArray] w (FitsEnd (s.n ≤ 2147483647) w) := by
  obtain ⟨op, X, Y, CC, D, SA, sn, sc, B⟩ := s
  show Calls Try.prog 26 #[.agg #[.int .i64 op, .int .i64 X, .int .i64 Y, .int .i64 CC, .int .i64 D, .slice SA sn sc]] w (FitsEnd (sn ≤ 2147483647) w)
  by_cases hn : 2147483647 < sn
  · go_enter Try.func26, Try.ntmps26
    go_wp2_with fail
    go_ret
    exact ⟨false, rfl, (fun h => by cases h), (Below.refl _ _).alloc (Nat.le_refl _) _⟩
  · go_enter Try.func26, Try.ntmps26
    go_wp2_with fail
    go_ret
    exact ⟨true, rfl, fun _ => by omega, (Below.refl _ _).alloc (Nat.le_refl _) _⟩

set_option maxRecDepth 100000 in
set_option maxHeartbeats 1600000 in
theorem zzFits3 (A : Option Addr) (n c : Nat) (Z : Nat → Raw) (w : World) (hn : n ≤ 9223372036854775807) (h : Raws w A n Z) : Calls Try.prog 13 #[.slice A n c] w (FitsEnd (∀ j, j < n → (Z j).n ≤ 2147483647) w) := by
  have HR := Lib.hid h
  clear h
  by_cases hbig : 2147483647 < n
  · go_enter Try.func13, Try.ntmps13
    go_wp2_with fail
    go_ret
    exact ⟨false, rfl, (fun h => by cases h), Below.refl _ _⟩
  go_enter Try.func13, Try.ntmps13
  go_wp2_with fail
  go_loopw [10] (fun i wr => ∃ q : Nat, q ≤ n ∧ i = .int .i64 q ∧ Hid (∀ j, j < q → (Z j).n ≤ 2147483647) ∧ Hid (Below w.heap.size w wr)) (fun i _ => n - (intOf i).toNat)
  case atStart => exact ⟨0, Nat.zero_le _, rfl, Lib.hid (fun j hj => by omega), Lib.hid (Below.refl _ _)⟩
  case round =>
    obtain ⟨q, hq, rfl, HF, HB⟩ := hrel
    by_cases hlt : q < n
    · obtain ⟨b, off, e, hb, hc⟩ := HR.out (by omega)
      subst e
      obtain ⟨hcs, hin, hnc, hcm, hrd⟩ := hc q hlt
      have HZ4 := Lib.hid (fun w => zzFits4 (Z q) hnc w)
      have HQ : Hid (∀ r : Bool, (r = true → (Z q).n ≤ 2147483647) → r = true → ∀ j, j < q + 1 → (Z j).n ≤ 2147483647) := Lib.hid (fun r h1 h2 j hj => by
        by_cases e : j = q
        · rw [e]; exact h1 h2
        · exact HF.out j (by omega))
      obtain ⟨s, hs⟩ : ∃ s, s = Z q := ⟨_, rfl⟩
      rw [← hs] at hcs HZ4 HQ
      have cc := fun i v hv => (HB.out.cell (p := ⟨b, off + q * 6 + i, none⟩) hb).trans (hcs i v hv)
      obtain ⟨op, X, Y, CC, D, SA, sn, sc, B⟩ := s
      have c0 : wr.cell? ⟨b, off + q * 6 + 0, none⟩ = some (.int .i64 op) := cc 0 _ rfl
      have c1 : wr.cell? ⟨b, off + q * 6 + 1, none⟩ = some (.int .i64 X) := cc 1 _ rfl
      have c2 : wr.cell? ⟨b, off + q * 6 + 2, none⟩ = some (.int .i64 Y) := cc 2 _ rfl
      have c3 : wr.cell? ⟨b, off + q * 6 + 3, none⟩ = some (.int .i64 CC) := cc 3 _ rfl
      have c4 : wr.cell? ⟨b, off + q * 6 + 4, none⟩ = some (.int .i64 D) := cc 4 _ rfl
      have c5 : wr.cell? ⟨b, off + q * 6 + 5, none⟩ = some (.slice SA sn sc) := cc 5 _ rfl
      rw [Nat.add_zero] at c0
      have HZ5 : Hid (∀ w, Calls Try.prog 26 #[.agg #[.int .i64 op, .int .i64 X, .int .i64 Y, .int .i64 CC, .int .i64 D, .slice SA sn sc]] w (FitsEnd (sn ≤ 2147483647) w)) := Lib.hid HZ4.out
      have HQ5 : Hid (∀ r : Bool, (r = true → sn ≤ 2147483647) → r = true → ∀ j, j < q + 1 → (Z j).n ≤ 2147483647) := Lib.hid HQ.out
      have hq1 : (q : Int) < (n : Int) := by omega
      have hq0 : (0 : Int) ≤ (q : Int) := by omega
      clear hc hcs hin hnc hcm hrd cc hs HZ4 HQ
      go_wp2_with fail
      refine (HZ5.out _).mono ?_
      rintro e w3 ⟨r, rfl, hr, hb3⟩
      have HB3 : Hid (Below w.heap.size w w3) := Lib.hid ((HB.out.alloc HB.out.size _).trans (hb3.mono (Nat.le_trans HB.out.size (by simp))))
      have HN3 := Lib.hid (HQ5.out r hr)
      clear hr hb3
      cases r
      · go_wp2_with fail
        go_ret
        exact ⟨false, rfl, (fun h => by cases h), HB3.out⟩
      · have HN4 := Lib.hid (HN3.out rfl)
        go_wp2_with fail
        go_roundw
        case rel => exact ⟨q + 1, by omega, by go_num, HN4, HB3⟩
        case measure => simp [intOf]; omega
    · obtain rfl : q = n := by omega
      go_wp2_with fail
      go_ret
      exact ⟨true, rfl, fun _ => HF.out, HB.out⟩
set_option maxRecDepth 100000 in
set_option maxHeartbeats 1600000 in
theorem lawRows (x y : Nat) (hx : x < 256) (hy : y < 256) (z : Nat → Bool) (A : Option Addr) (n c : Nat) (hn : n < 4294967296) (w : World) (h : Rd w A n (fun j => .bool (z j))) :
    Calls Try.prog 10 #[.int .u8 x, .int .u8 y, .slice A n c] w fun e w' => ∃ b W H, e = .returned (.slice (some ⟨b, 0, none⟩) H H) ∧ 0 < W ∧ W < 71 ∧ 0 < H ∧ H < 71 ∧ Hid (W = 1 + x % 70 ∧ H = 1 + y % 70) ∧ Hid (Rows2 w' (some ⟨b, 0, none⟩) H W (fitB z n W)) ∧ Below w.heap.size w w' := by
  obtain ⟨W, hW⟩ : ∃ W, W = 1 + x % 70 := ⟨_, rfl⟩
  obtain ⟨H, hH⟩ : ∃ H, H = 1 + y % 70 := ⟨_, rfl⟩
  have eW : (1 : Int) + (x : Int) % 70 = (W : Int) := by omega
  have eH : (1 : Int) + (y : Int) % 70 = (H : Int) := by omega
  have hW0 : 0 < W := by omega
  have hW1 : W < 71 := by omega
  have hH0 : 0 < H := by omega
  have hH1 : H < 71 := by omega
  have HB := Lib.hid (biRows2 W H hW0 hH0 (by omega) (by omega) z A n c hn w h)
  have HE := Lib.hid (And.intro hW hH)
  clear hW hH h
  go_enter Try.func10, Try.ntmps10
  go_wp2_with fail
  refine HB.out.mono ?_
  rintro e w1 ⟨b, rfl, HR, hb⟩
  go_wp2_with fail
  go_ret
  exact ⟨b, W, H, rfl, hW0, hW1, hH0, hH1, HE, HR, hb⟩

def DoneEnd (w : World) (e : Ending) (w' : World) : Prop := e = .returned (.bool true) ∧ Below w.heap.size w w'
set_option maxRecDepth 100000 in
set_option maxHeartbeats 6400000 in
theorem fnBIGrids (w : World) (a : Int) (ha : (Lit.int .u8 a).wf = true) (b : Int) (hb : (Lit.int .u8 b).wf = true) (A : Option Addr) (n c : Nat) (z : Nat → Bool) (hnc : n ≤ c) (hcm : c ≤ maxLen) (h1 : Rd w A n (fun j => .bool (z j)))
    (A2 : Option Addr) (n2 c2 : Nat) (Z : Nat → Raw) (hnc2 : n2 ≤ c2) (hcm2 : c2 ≤ maxLen) (h2 : Raws w A2 n2 Z) :
    Calls Try.prog 5 #[.int .u8 a, .int .u8 b, .slice A n c, .slice A2 n2 c2] w fun e w' => e = .returned (.bool true) ∧ Below w.heap.size w w' := by
  have ba := bd_u8 ha
  have bb := bd_u8 hb
  obtain ⟨x, rfl⟩ : ∃ x : Nat, a = x := ⟨a.toNat, by omega⟩
  obtain ⟨y, rfl⟩ : ∃ y : Nat, b = y := ⟨b.toNat, by omega⟩
  unfold maxLen at hcm hcm2
  by_cases hbig : 2147483647 < n
  · go_enter Try.func5, Try.ntmps5
    go_wp2_with fail
    go_ret
    exact ⟨rfl, Below.refl _ _⟩
  have HFI := Lib.hid (zzFits3 A2 n2 c2 Z w (by omega) h2)
  have HR1 := Lib.hid h1
  have HR2 := Lib.hid h2
  have hxl : x ≤ 255 := by omega
  have hyl : y ≤ 255 := by omega
  clear h1 h2 ha hb ba bb
  go_enter Try.func5, Try.ntmps5
  go_wp2_with fail
  refine HFI.out.mono ?_
  rintro e w1 ⟨r, rfl, hr, hb1⟩
  have HB1 := Lib.hid hb1
  cases r
  · clear hr hb1
    go_wp2_with fail
    go_ret
    exact ⟨rfl, HB1.out⟩
  · have HNZ := Lib.hid (hr rfl)
    have HRO := Lib.hid (lawRows x y (by omega) (by omega) z A n c (by omega) w1 (HR1.out.below hb1))
    clear hr hb1
    go_wp2_with fail
    refine HRO.out.mono ?_
    rintro e w2 ⟨b0, W, H, rfl, hW0, hW1, hH0, hH1, _, HRR, hb2⟩
    obtain ⟨b9, o9, e9, hb9, hr9⟩ := HRR.out hH0
    injection e9 with e9
    injection e9 with e9 e10 _
    subst e9 e10
    obtain ⟨B0, C0, hc0, _⟩ := hr9 0 hH0
    rw [Nat.add_zero] at hc0
    have HB2 := Lib.hid (HB1.out.trans (hb2.mono HB1.out.size))
    have HGS := Lib.hid (biGridSteps W H hW0 hH0 (by omega) (by omega) A2 n2 c2 Z (fun j hj => by have := HNZ.out j hj; omega) w2 (HR2.out.below HB2.out))
    have hHi : (0 : Int) < (H : Int) := by omega
    clear hb2 hr9
    go_wp2_with fail
    refine HGS.out.mono ?_
    rintro e w3 ⟨l, A3, c3, rfl, hll, hgo, hst, hb3⟩
    obtain ⟨P, hP⟩ : ∃ P : Pic, P = ⟨W, H, fitB z n W⟩ := ⟨_, rfl⟩
    have ePW : P.W = W := by rw [hP]
    have ePH : P.H = H := by rw [hP]
    have ePf : P.f = fitB z n W := by rw [hP]
    have HB3 := Lib.hid (HB2.out.trans (hb3.mono HB2.out.size))
    have HRR3 : Hid (Rows2 w3 (some ⟨b0, 0, none⟩) P.H P.W P.f) := Lib.hid (by rw [ePW, ePH, ePf]; exact HRR.out.below hb3)
    have HGO : Hid (Goods l P.W P.H) := Lib.hid (by rw [ePW, ePH]; exact hgo.out)
    have hgr := gridRun P l HGO.out (by omega) (by omega) (by omega) (by omega) l.length rfl (by omega) (some ⟨b0, 0, none⟩) A3 H c3 w3 HRR3.out hst.out
    rw [ePH] at hgr
    have HGR := Lib.hid hgr
    have HST := Lib.hid hst.out
    have HLT := Lib.hid (runS_lt l P (by omega) (by omega))
    have HPW : Hid (0 < P.W ∧ 0 < P.H ∧ P.W < 1000 ∧ P.H < 1000 ∧ P.H = H) := Lib.hid ⟨by omega, by omega, by omega, by omega, ePH⟩
    obtain ⟨m, hm⟩ : ∃ m, m = l.length := ⟨_, rfl⟩
    rw [← hm] at HGR ⊢
    have HM := Lib.hid hm
    have hml : m < 1000 := by omega
    clear hgr hP ePW ePH ePf hb3 hgo hst hll hm HGS hc0 HFI HRO
    go_wp2_with fail
    refine HGR.out.mono ?_
    rintro e w4 ⟨G, A4, c4, rfl, hr4, hd4, hb4⟩
    have hbg := biGrid P l HGO.out HPW.out.1 HPW.out.2.1 HPW.out.2.2.1 HPW.out.2.2.2.1 m HM.out hml (some ⟨b0, 0, none⟩) A3 H c3 w4 (HRR3.out.below hb4) (HST.out.keep hb4)
    rw [HPW.out.2.2.2.2] at hbg
    have HBG := Lib.hid hbg
    have HB4 := Lib.hid (HB3.out.trans (hb4.mono HB3.out.size))
    clear hbg hb4 HGR
    rw [← HM.out] at hd4 ⊢
    go_wp2_with fail
    refine HBG.out.mono ?_
    rintro e w5 ⟨G5, A5, c5, c6, rfl, hr5, hd5, hb5⟩
    rw [← HM.out] at hd5 ⊢
    have HB5 := Lib.hid (HB4.out.trans (hb5.mono HB4.out.size))
    have HSR := Lib.hid (biSameRows (runS l P).H (runS l P).W (runS l P).H c6 (runS l P).f (some ⟨G, 0, none⟩) (some ⟨G5, 0, none⟩) (by have := HLT.out.2; omega) (by have := HLT.out.1; omega) w5 (hr4.out.below hb5) hr5.out)
    have HD4 := Lib.hid (hd4.out.below hb5)
    clear hr4 hd4 hb5 HBG
    go_wp2_with fail
    refine HSR.out.mono ?_
    rintro e w6 ⟨rfl, hb6⟩
    have HSB := Lib.hid (biSameBits (nthB (toldS l P)) A4 A5 m c4 c5 (by omega) w6 (HD4.out.below hb6) (hd5.out.below hb6))
    have HB6 := Lib.hid (HB5.out.trans (hb6.mono HB5.out.size))
    clear hb6 HSR
    go_wp2_with fail
    refine HSB.out.mono ?_
    rintro e w7 ⟨rfl, hb7⟩
    have HB7 := Lib.hid (HB6.out.trans (hb7.mono HB6.out.size))
    clear hb7 HSB
    go_wp2_with fail
    go_ret
    exact ⟨rfl, HB7.out⟩
end Go.Proofs.Ytcfcbcjaiplllaa
