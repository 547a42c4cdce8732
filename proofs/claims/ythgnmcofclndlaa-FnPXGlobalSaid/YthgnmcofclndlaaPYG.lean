/-
  The statement FnPXGlobal, walked. No condition.
-/
import Derived.Test.YthgnmcofclndlaaPYF
namespace Go.Proofs.Ythgnmcofclndlaa
open Go.RowKit Go.Qz
set_option linter.unusedVariables false

set_option maxRecDepth 100000 in
set_option maxHeartbeats 6400000 in
theorem fnPXGlobal (w : World) (A : Option Addr) (n c : Nat) (z : Nat → Bool) (hnc : n ≤ c) (hcm : c ≤ maxLen) (h : Rd w A n (fun j => .bool (z j))) (x : Int) (hx : (Lit.int .u8 x).wf = true) (y : Int) (hy : (Lit.int .u8 y).wf = true) (dk : Int) (hd : (Lit.int .u8 dk).wf = true) (lt : Int) (hl : (Lit.int .u8 lt).wf = true) :
    Calls Try.prog 5 #[.slice A n c, .int .u8 x, .int .u8 y, .int .u8 dk, .int .u8 lt] w fun e w' => e = .returned (.bool true) ∧ Below w.heap.size w w' := by
  have bx := bd_u8 hx
  have by' := bd_u8 hy
  have bd := bd_u8 hd
  have bl := bd_u8 hl
  obtain ⟨x, rfl⟩ : ∃ m : Nat, x = m := ⟨x.toNat, by omega⟩
  obtain ⟨y, rfl⟩ : ∃ m : Nat, y = m := ⟨y.toNat, by omega⟩
  obtain ⟨dk, rfl⟩ : ∃ m : Nat, dk = m := ⟨dk.toNat, by omega⟩
  obtain ⟨lt, rfl⟩ : ∃ m : Nat, lt = m := ⟨lt.toNat, by omega⟩
  by_cases hbig : (2147483647 : Int) < n
  · clear h
    go_enter Try.func5, Try.ntmps5
    go_wp2_with fail
    go_ret
    exact ⟨rfl, Below.refl _ _⟩
  have HP := Lib.hid (pxPicture x y (by omega) (by omega) z A n c (by omega) w h)
  have HT := Lib.hid (fun W => pxTwo dk lt (by omega) (by omega) W)
  clear h hx hy hd hl bx by' bd bl hcm
  go_enter Try.func5, Try.ntmps5
  go_wp2_with fail
  refine HP.out.mono ?_
  rintro e w1 ⟨b, W, H, Z, rfl, HWH, HR, hb1⟩
  have HB1 := Lib.hid hb1
  have HM := Lib.hid (pxMiddle Z H W H (some ⟨b, 0, none⟩) (by have := HWH.out; omega) (by have := HWH.out; omega) w1 HR.out)
  clear hb1 HP
  go_wp2_with fail
  refine HM.out.mono ?_
  rintro e w2 ⟨r, rfl, hr, hb2⟩
  have HB2 := Lib.hid (HB1.out.trans (hb2.mono HB1.out.size))
  have HR2 := Lib.hid (HR.out.below hb2)
  have HRR := Lib.hid hr
  clear hb2 HM hr HR
  cases r
  · go_wp2_with fail
    go_ret
    exact ⟨rfl, HB2.out⟩
  have HMI := Lib.hid (HRR.out rfl)
  go_wp2_with fail
  refine (HT.out w2).mono ?_
  rintro e w3 ⟨d, l, rfl, hok, hb3⟩
  have HOK := Lib.hid hok
  have HB3 := Lib.hid (HB2.out.trans (hb3.mono HB2.out.size))
  have HR3 := Lib.hid (HR2.out.below hb3)
  have HD := Lib.hid (pxDraw Z W H d l H (by have := HWH.out; omega) (by have := HWH.out; omega) (by have := HWH.out; omega) (by have := HWH.out; omega) (some ⟨b, 0, none⟩) w3 HR3.out)
  clear hb3 HT HR2 HRR hok
  go_wp2_with fail
  refine HD.out.mono ?_
  rintro e w4 ⟨A4, N, c4, rfl, HN, HRD, hb4⟩
  have HB4 := Lib.hid (HB3.out.trans (hb4.mono HB3.out.size))
  have HR4 := Lib.hid (HR3.out.below hb4)
  have HBM := Lib.hid (blackMatrix Z W H N c4 false (by have := HWH.out; omega) (by have := HWH.out; omega) A4 w4 (blackG Z W H N d l c4 (by have := HWH.out; omega) (by have := HWH.out; omega) (by have := HWH.out; omega) (by have := HWH.out; omega) HOK.out HMI.out HN.out.1 A4 w4 HRD.out))
  clear hb4 HD HR3
  go_wp2_with fail
  refine HBM.out.mono ?_
  rintro e w5 ⟨G, rfl, HRO, hb5⟩
  have HB5 := Lib.hid (HB4.out.trans (hb5.mono HB4.out.size))
  have HSM := Lib.hid (biSameRows H W H H Z (some ⟨G, 0, none⟩) (some ⟨b, 0, none⟩) (by have := HWH.out; omega) (by have := HWH.out; omega) w5 HRO.out (HR4.out.below hb5))
  clear hb5 HBM HR4
  go_wp2_with fail
  refine HSM.out.mono ?_
  rintro e w6 ⟨rfl, hb6⟩
  have HB6 := Lib.hid (HB5.out.trans (hb6.mono HB5.out.size))
  clear hb6 HSM
  go_wp2_with fail
  go_ret
  exact ⟨rfl, HB6.out⟩
end Go.Proofs.Ythgnmcofclndlaa
