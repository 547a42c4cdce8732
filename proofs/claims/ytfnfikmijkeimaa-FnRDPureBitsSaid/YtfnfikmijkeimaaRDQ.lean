/-
  dmAlike, taken, DMPureBits, walked. No condition beyond the bounds that each theorem states.
-/
import Derived.Test.YtfnfikmijkeimaaRDN
import Derived.Test.YtfnfikmijkeimaaRDO
namespace Go.Proofs.Ytfnfikmijkeimaa
open Go.RowKit Go.Qz
set_option linter.unusedVariables false

def TrueEnd (w : World) (e : Ending) (w' : World) : Prop := e = .returned (.bool true) ∧ Below w.heap.size w w'
set_option maxRecDepth 100000 in
set_option maxHeartbeats 6400000 in
theorem dmAlike (H W c d : Nat) (f : Nat → Nat → Bool) (A B : Option Addr) (hH : H < 100000) (hW : W < 100000) (w : World) (hA : Rows2 w A H W f) (hB : Rows2 w B H W f) :
    Calls Try.prog 9 #[.slice A H c, .slice B H d] w (TrueEnd w) := by
  have HA := Lib.hid hA
  have HB := Lib.hid hB
  clear hA hB
  go_enter Try.func9, Try.ntmps9
  go_wp2_with fail
  go_loopw [14] (fun i wr => ∃ k : Nat, k ≤ H ∧ i = .int .i64 k ∧ Hid (Below w.heap.size w wr)) (fun i _ => H - (intOf i).toNat)
  case atStart => exact ⟨0, by omega, rfl, Lib.hid (Below.refl _ _)⟩
  case round =>
    obtain ⟨wo, hwo⟩ : ∃ wo, wo = wr := ⟨_, rfl⟩
    rw [← hwo] at hrel ⊢
    clear hwo
    obtain ⟨k, hk, rfl, HBo⟩ := hrel
    by_cases hlt : k < H
    · have hk0 : (0 : Int) ≤ (k : Int) := by omega
      have hk1 : (k : Int) < (H : Int) := by omega
      obtain ⟨ab, ao, rfl, hab, har⟩ := HA.out (by omega)
      obtain ⟨bb, bo, rfl, hbb, hbr⟩ := HB.out (by omega)
      obtain ⟨Ra, Ca, hra, hda⟩ := har k hlt
      obtain ⟨Rb, Cb, hrb, hdb⟩ := hbr k hlt
      have ca := (HBo.out.cell (p := ⟨ab, ao + k, none⟩) hab).trans hra
      have cb := (HBo.out.cell (p := ⟨bb, bo + k, none⟩) hbb).trans hrb
      have HDA := Lib.hid hda
      have HDB := Lib.hid hdb
      clear har hbr hra hrb hda hdb
      go_wp2_with fail
      go_quiet (fail)
      obtain ⟨w2, hw2⟩ : ∃ w2, w2 = wo.drewN nq := ⟨_, rfl⟩
      have HB2 : Hid (Below w.heap.size w w2) := Lib.hid (by rw [hw2]; exact Go.Qz.below_drewN HBo.out nq)
      have ca2 : w2.cell? ⟨ab, ao + k, none⟩ = some (.slice Ra W Ca) := by rw [hw2]; exact ca
      have cb2 : w2.cell? ⟨bb, bo + k, none⟩ = some (.slice Rb W Cb) := by rw [hw2]; exact cb
      rw [← hw2]
      clear ca cb hw2
      go_wp2_with fail
      clear ca2 cb2
      go_loopw [33] (fun i wr => ∃ j : Nat, j ≤ W ∧ i = .int .i64 j ∧ Hid (Below w.heap.size w wr)) (fun i _ => W - (intOf i).toNat)
      case atStart => exact ⟨0, by omega, rfl, HB2⟩
      case round =>
        obtain ⟨wu, hwu⟩ : ∃ wu, wu = wr := ⟨_, rfl⟩
        rw [← hwu] at hrel ⊢
        clear hwu
        obtain ⟨j, hj, rfl, HBu⟩ := hrel
        by_cases hlt2 : j < W
        · have hj0 : (0 : Int) ≤ (j : Int) := by omega
          have hj1 : (j : Int) < (W : Int) := by omega
          obtain ⟨ab', ao', e1, _, har⟩ := (HA.out.below HBu.out) (by omega)
          obtain ⟨bb', bo', e2, _, hbr⟩ := (HB.out.below HBu.out) (by omega)
          injection e1 with e1
          injection e1 with e1 e1' _
          injection e2 with e2
          injection e2 with e2 e2' _
          subst e1 e1' e2 e2'
          obtain ⟨Ra', Ca', hra, hda⟩ := har k hlt
          obtain ⟨Rb', Cb', hrb, hdb⟩ := hbr k hlt
          obtain ⟨xb, xo, rfl, _, hxc⟩ := hda (by omega)
          obtain ⟨yb, yo, rfl, _, hyc⟩ := hdb (by omega)
          have cx := hxc j hlt2
          have cy := hyc j hlt2
          dsimp only at cx cy
          obtain ⟨v, hv⟩ : ∃ v, v = f k j := ⟨_, rfl⟩
          rw [← hv] at cx cy
          have hne : ∀ X, (binOp .neq 4 (.bool v) (.bool v)).run Try.prog X = .ok (.bool false) X := fun X => by cases v <;> rfl
          have HBn : Hid (∀ n, Hid (Below w.heap.size w (wu.drewN n))) := Lib.hid (fun n => Lib.hid (Go.Qz.below_drewN HBu.out n))
          clear har hbr hda hdb hxc hyc hv HDA HDB
          go_wp2_with fail
          go_quiet (fail)
          go_wp2_with fail
          go_roundw
          case rel => exact ⟨j + 1, by omega, by go_num, HBn.out _⟩
          case measure => simp [intOf]; omega
        · obtain rfl : j = W := by omega
          go_wp2_with fail
          go_roundw
          case rel => exact ⟨k + 1, by omega, by go_num, HBu⟩
          case measure => simp [intOf]; omega
    · obtain rfl : k = H := by omega
      go_wp2_with fail
      go_ret
      exact ⟨rfl, HBo.out⟩

set_option maxRecDepth 100000 in
set_option maxHeartbeats 3200000 in
theorem takenM (p g W H : Nat) (ws : List Nat) (f : Nat → Nat → Bool) (hW1 : W < 1000) (hH1 : H < 1000) (w : World) (h : BM w p g ws W H) (hf : ∀ x y, x < W → y < H → mb ws W x y = f y x) :
    Calls Try.prog 15 #[.pointer (some ⟨p, 0, none⟩), .nilIface] w fun e w' => ∃ G, e = .returned (.tuple #[.slice (some ⟨G, 0, none⟩) H H, .bool true]) ∧ Hid (Rows2 w' (some ⟨G, 0, none⟩) H W f) ∧ Below w.heap.size w w' := by
  have HR := Lib.hid (rowsOf p g W H ws f hW1 hH1 w h hf)
  have hneq2 : ∀ X, (binOp .neq 45 .nilIface .nilIface).run Try.prog X = .ok (.bool false) X := fun X => rfl
  clear h hf
  go_enter Try.func15, Try.ntmps15
  go_wp2_with fail
  refine HR.out.mono ?_
  rintro e w1 ⟨G, rfl, hr, hb⟩
  have HB := Lib.hid hb
  clear HR hb
  go_wp2_with fail
  go_ret2
  exact ⟨G, rfl, hr, HB.out⟩
set_option maxRecDepth 100000 in
set_option maxHeartbeats 3200000 in
theorem extractDoor (F : Nat → Nat → Bool) (B l0 l1 l2 l3 H W WW HH p g : Nat) (ws : List Nat) (w : World) (h : BM w p g ws WW HH) (hok : PicOk F B l0 l1 l2 l3 H W WW HH) (hm : ∀ x y, x < (WW + 31) / 32 * 32 → y < HH → mb ws WW x y = (decide (x < WW) && pic F B l0 l1 H W y x)) :
    Calls Try.prog 16 #[.pointer (some ⟨p, 0, none⟩)] w (MatPost F H W w) := by
  have HR := Lib.hid (dmExtract F B l0 l1 l2 l3 H W WW HH p g ws w h hok hm)
  clear h hok hm
  go_enter Try.func16, Try.ntmps16
  go_wp2_with fail
  refine HR.out.mono ?_
  rintro e w1 ⟨p1, g1, ws1, rfl, h1, h2, hb⟩
  have HB := Lib.hid hb
  clear HR hb
  go_wp2_with fail
  go_ret2
  exact ⟨p1, g1, ws1, rfl, h1, h2, HB.out⟩
set_option maxRecDepth 100000 in
set_option maxHeartbeats 3200000 in
theorem dmPureBits (F : Nat → Nat → Bool) (B l0 l1 l2 l3 H W WW HH c : Nat) (A : Option Addr) (w : World) (hok : PicOk F B l0 l1 l2 l3 H W WW HH) (h : Rows2 w A HH WW (pic F B l0 l1 H W)) :
    Calls Try.prog 7 #[.slice A HH c] w fun e w' => ∃ G, e = .returned (.tuple #[.slice (some ⟨G, 0, none⟩) H H, .bool true]) ∧ Hid (Rows2 w' (some ⟨G, 0, none⟩) H W F) ∧ Below w.heap.size w w' := by
  have hok' := hok
  obtain ⟨b0, b1, w0, w1, h0, h1, ww, hh, r2, wb, hb, f0, f1, f2⟩ := hok'
  have HOK := Lib.hid hok
  have hp1 : 0 < B * W := Nat.mul_pos (by omega) (by omega)
  have hp2 : 0 < B * H := Nat.mul_pos (by omega) (by omega)
  have HP := Lib.hid (gridP WW HH (by omega) (by omega) wb hb (pic F B l0 l1 H W) A c w h)
  have hneq2 : ∀ X, (binOp .neq 45 .nilIface .nilIface).run Try.prog X = .ok (.bool false) X := fun X => rfl
  clear h hok ww hh f0 f1 f2 hp1 hp2
  go_enter Try.func7, Try.ntmps7
  go_wp2_with fail
  refine HP.out.mono ?_
  rintro e w1 ⟨p, g, ws, rfl, hbm, hm, hbl, _, _⟩
  have HE := Lib.hid (extractDoor F B l0 l1 l2 l3 H W WW HH p g ws w1 hbm.out HOK.out hm.out)
  have HB1 := Lib.hid hbl
  clear hbm hm hbl HP
  go_wp2_with fail
  refine HE.out.mono ?_
  rintro e w2 ⟨p2, g2, ws2, rfl, hbm, hm, hbl⟩
  have HTK := Lib.hid (takenM p2 g2 W H ws2 F (by omega) (by omega) w2 hbm.out hm.out)
  have HB2 := Lib.hid (HB1.out.trans (hbl.mono HB1.out.size))
  clear hbm hm hbl HE
  go_wp2_with fail
  refine HTK.out.mono ?_
  rintro e w3 ⟨G, rfl, hr, hbl⟩
  have HB3 := Lib.hid (HB2.out.trans (hbl.mono HB2.out.size))
  clear hbl HTK
  go_wp2_with fail
  go_ret2
  exact ⟨G, rfl, hr, HB3.out⟩
end Go.Proofs.Ytfnfikmijkeimaa
