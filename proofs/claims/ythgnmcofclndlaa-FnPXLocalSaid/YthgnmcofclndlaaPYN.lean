/-
  impl.black with bounds of parts, and the statement FnPXLocal, walked. No condition beyond the bounds that each theorem states.
-/
import Derived.Test.YthgnmcofclndlaaPYL
namespace Go.Proofs.Ythgnmcofclndlaa
open Go.RowKit Go.Qz
set_option linter.unusedVariables false

theorem m_hbblack (g : Nat) (w : World) : (method 243 82 (.pointer (some ⟨g, 0, none⟩)) "GetBlackMatrix").run Try.prog w = .ok (80, .pointer (some ⟨g, 0, none⟩)) w := by kernel_rfl
set_option maxRecDepth 100000 in
set_option maxHeartbeats 6400000 in
theorem blackH (Z : Nat → Nat → Bool) (W H N d l c : Nat) (hW1 : 40 ≤ W) (hW : W ≤ 200) (hH1 : 40 ≤ H) (hH : H ≤ 200) (hdl : TwoOk d l) (h24 : d + 24 < l) (hsq : Squares Z H W) (hN : N = W * H) (A : Option Addr) (w : World) (hr : Rd w A N (fun j => .int .u8 ((gr Z W d l j : Nat) : Int))) :
    Calls Try.prog 24 #[.int .i64 W, .int .i64 H, .slice A N c, .bool true] w (BmPost Z W H w) := by
  have HSR := Lib.hid (source2 W H N A c (fun j => ((gr Z W d l j : Nat) : Int)) (by omega) (by omega) hW hH hN w hr)
  have HDL := Lib.hid hdl
  have HSQ := Lib.hid hsq
  have HNN := Lib.hid hN
  have hneq2 : ∀ X, (binOp .neq 51 .nilIface .nilIface).run Try.prog X = .ok (.bool false) X := fun X => rfl
  clear hr hdl hsq hN
  go_enter Try.func24, Try.ntmps24
  go_wp2_with fail
  refine HSR.out.mono ?_
  rintro e w1 ⟨p, A1, c1, rfl, hs, hnc, hcm, hrd, hb1⟩
  have HS1 := Lib.hid hs
  have HB1 := Lib.hid hb1
  have HNW := Lib.hid (ghNew w1 p)
  clear hs hb1 HSR
  go_wp2_with fail
  refine HNW.out.mono ?_
  rintro e w2 ⟨g0, bk0, e0, rfl, _, _, _, hb2⟩
  have HB2 := Lib.hid (HB1.out.trans (hb2.mono HB1.out.size))
  have HS2 := Lib.hid (SrcIs.below HS1.out hb2)
  have HR2 := Lib.hid (hrd.out.below hb2)
  have HNH := Lib.hid (hbNew w2 p)
  clear hb2 HNW hrd HS1
  go_wp2_with fail
  refine HNH.out.mono ?_
  rintro e w3 ⟨h, g, bk, e1, rfl, hh, hg, hl, hb3⟩
  have HB3 := Lib.hid (HB2.out.trans (hb3.mono HB2.out.size))
  have HBL := Lib.hid (hbBlack Z W H N d l c1 h g p bk e1 hW1 hW hH1 hH HDL.out h24 HSQ.out HNN.out hnc hcm A1 w3 hh.out hg.out (SrcIs.below HS2.out hb3) (HR2.out.below hb3))
  have HGB : Hid (w.heap.size ≤ h) := Lib.hid (by have := HB2.out.size; have := hl.out; omega)
  have hm := fun X => m_hbblack h X
  clear hh hg hl hb3 HNH hnc hcm
  go_wp2_with fail
  refine HBL.out.mono ?_
  rintro e w4 ⟨pm, gm, ws, rfl, hbm, hmb, hmo⟩
  have HB4 : Hid (Below w.heap.size w w4) := Lib.hid (HB3.out.trans (hmo.out.below HB3.out.size (fun k hk => by have := HGB.out; omega)))
  clear HBL hm
  go_wp2_with fail
  go_ret
  exact ⟨pm, gm, ws, rfl, hbm, hmb, HB4.out⟩

set_option maxRecDepth 100000 in
set_option maxHeartbeats 6400000 in
theorem fnPXLocal (w : World) (A : Option Addr) (n c : Nat) (z : Nat → Bool) (hnc : n ≤ c) (hcm : c ≤ maxLen) (h : Rd w A n (fun j => .bool (z j))) (x : Int) (hx : (Lit.int .u8 x).wf = true) (y : Int) (hy : (Lit.int .u8 y).wf = true) (dk : Int) (hd : (Lit.int .u8 dk).wf = true) (lt : Int) (hl : (Lit.int .u8 lt).wf = true) :
    Calls Try.prog 6 #[.slice A n c, .int .u8 x, .int .u8 y, .int .u8 dk, .int .u8 lt] w fun e w' => e = .returned (.bool true) ∧ Below w.heap.size w w' := by
  have bx := bd_u8 hx
  have by' := bd_u8 hy
  have bd := bd_u8 hd
  have bl := bd_u8 hl
  obtain ⟨x, rfl⟩ : ∃ m : Nat, x = m := ⟨x.toNat, by omega⟩
  obtain ⟨y, rfl⟩ : ∃ m : Nat, y = m := ⟨y.toNat, by omega⟩
  obtain ⟨dk, rfl⟩ : ∃ m : Nat, dk = m := ⟨dk.toNat, by omega⟩
  obtain ⟨lt, rfl⟩ : ∃ m : Nat, lt = m := ⟨lt.toNat, by omega⟩
  by_cases hbig : (2147483647 : Int) < n
  · clear h
    go_enter Try.func6, Try.ntmps6
    go_wp2_with fail
    go_ret
    exact ⟨rfl, Below.refl _ _⟩
  have HP := Lib.hid (pxLarge x y (by omega) (by omega) z A n c (by omega) w h)
  have HT := Lib.hid (fun W => pxTwo dk lt (by omega) (by omega) W)
  clear h hx hy hd hl bx by' bd bl hcm
  go_enter Try.func6, Try.ntmps6
  go_wp2_with fail
  refine HP.out.mono ?_
  rintro e w1 ⟨b, W, H, Z, rfl, HWH, HR, hb1⟩
  have HB1 := Lib.hid hb1
  have HM := Lib.hid (pxSquares Z H W H (some ⟨b, 0, none⟩) (by have := HWH.out; omega) (by have := HWH.out; omega) (by have := HWH.out; omega) (by have := HWH.out; omega) w1 HR.out)
  clear hb1 HP
  go_wp2_with fail
  refine HM.out.mono ?_
  rintro e w2 ⟨r, rfl, hr, hb2⟩
  have HB2 := Lib.hid (HB1.out.trans (hb2.mono HB1.out.size))
  have HR2 := Lib.hid (HR.out.below hb2)
  have HRR := Lib.hid hr
  clear hb2 HM hr HR
  cases r
  · go_wp2_with fail
    go_ret
    exact ⟨rfl, HB2.out⟩
  have HMI := Lib.hid (HRR.out rfl)
  go_wp2_with fail
  refine (HT.out w2).mono ?_
  rintro e w3 ⟨d, l, rfl, hok, hb3⟩
  have HOK := Lib.hid hok
  have HB3 := Lib.hid (HB2.out.trans (hb3.mono HB2.out.size))
  have HR3 := Lib.hid (HR2.out.below hb3)
  obtain ⟨dm, hdm⟩ : ∃ dm, dm = l - d := ⟨_, rfl⟩
  have ew : IntKind.u8.wrap ((l : Int) - (d : Int)) = (dm : Int) := by have := hok.1; have := hok.2; rw [IntKind.wrap_u8]; omega
  have HDM := Lib.hid hdm
  clear hb3 HT HR2 HRR hok hdm
  by_cases h24 : dm = 24
  · subst h24
    have q1 : (((24 : Nat) : Int) == 24) = true := by rfl
    go_wp2_with fail
    go_ret
    exact ⟨rfl, HB3.out⟩
  have q1 : ((dm : Int) == 24) = false := by simp; omega
  have HD := Lib.hid (pxDraw Z W H d l H (by have := HWH.out; omega) (by have := HWH.out; omega) (by have := HWH.out; omega) (by have := HWH.out; omega) (some ⟨b, 0, none⟩) w3 HR3.out)
  have HL24 : Hid (d + 24 < l) := Lib.hid (by have := HDM.out; have := HOK.out.1; omega)
  go_wp2_with fail
  refine HD.out.mono ?_
  rintro e w4 ⟨A4, N, c4, rfl, HN, HRD, hb4⟩
  have HB4 := Lib.hid (HB3.out.trans (hb4.mono HB3.out.size))
  have HR4 := Lib.hid (HR3.out.below hb4)
  have HBM := Lib.hid (blackMatrix Z W H N c4 true (by have := HWH.out; omega) (by have := HWH.out; omega) A4 w4 (blackH Z W H N d l c4 (by have := HWH.out; omega) (by have := HWH.out; omega) (by have := HWH.out; omega) (by have := HWH.out; omega) HOK.out HL24.out HMI.out HN.out.1 A4 w4 HRD.out))
  clear hb4 HD HR3
  go_wp2_with fail
  refine HBM.out.mono ?_
  rintro e w5 ⟨G, rfl, HRO, hb5⟩
  have HB5 := Lib.hid (HB4.out.trans (hb5.mono HB4.out.size))
  have HSM := Lib.hid (biSameRows H W H H Z (some ⟨G, 0, none⟩) (some ⟨b, 0, none⟩) (by have := HWH.out; omega) (by have := HWH.out; omega) w5 HRO.out (HR4.out.below hb5))
  clear hb5 HBM HR4
  go_wp2_with fail
  refine HSM.out.mono ?_
  rintro e w6 ⟨rfl, hb6⟩
  have HB6 := Lib.hid (HB5.out.trans (hb6.mono HB5.out.size))
  clear hb6 HSM
  go_wp2_with fail
  go_ret
  exact ⟨rfl, HB6.out⟩
end Go.Proofs.Ythgnmcofclndlaa
