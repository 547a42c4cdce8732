/-
  BlackMatrix, BISameRows and the statement FnPXGlobal, walked. No condition beyond the bounds that each theorem states.
-/
import Derived.Test.YthgnmcofclndlaaPYE
import Derived.Deep.RegionHeld3
namespace Go.Proofs.Ythgnmcofclndlaa
open Go.RowKit Go.Qz
set_option linter.unusedVariables false

def TrueEnd (w : World) (e : Ending) (w' : World) : Prop := e = .returned (.bool true) ∧ Below w.heap.size w w'
set_option maxRecDepth 100000 in
set_option maxHeartbeats 6400000 in
theorem biSameRows (H W c d : Nat) (f : Nat → Nat → Bool) (A B : Option Addr) (hH : H < 100000) (hW : W < 100000) (w : World) (hA : Rows2 w A H W f) (hB : Rows2 w B H W f) :
    Calls Try.prog 18 #[.slice A H c, .slice B H d] w (TrueEnd w) := by
  have HA := Lib.hid hA
  have HB := Lib.hid hB
  clear hA hB
  go_enter Try.func18, Try.ntmps18
  go_wp2_with fail
  go_loopw [5] (fun i wr => ∃ k : Nat, k ≤ H ∧ i = .int .i64 k ∧ Hid (Below w.heap.size w wr)) (fun i _ => H - (intOf i).toNat)
  case atStart => exact ⟨0, by omega, rfl, Lib.hid (Below.refl _ _)⟩
  case round =>
    obtain ⟨wo, hwo⟩ : ∃ wo, wo = wr := ⟨_, rfl⟩
    rw [← hwo] at hrel ⊢
    clear hwo
    obtain ⟨k, hk, rfl, HBo⟩ := hrel
    by_cases hlt : k < H
    · have hk0 : (0 : Int) ≤ (k : Int) := by omega
      have hk1 : (k : Int) < (H : Int) := by omega
      obtain ⟨ab, ao, rfl, hab, har⟩ := HA.out (by omega)
      obtain ⟨bb, bo, rfl, hbb, hbr⟩ := HB.out (by omega)
      obtain ⟨Ra, Ca, hra, hda⟩ := har k hlt
      obtain ⟨Rb, Cb, hrb, hdb⟩ := hbr k hlt
      have HX : Hid (∀ w9, w9.cell? ⟨ab, ao + k, none⟩ = some (.slice Ra W Ca) ∧ w9.cell? ⟨bb, bo + k, none⟩ = some (.slice Rb W Cb) ∧ Hid (Below w.heap.size w w9) → Calls Try.prog 26 #[.slice Ra W Ca, .slice Rb W Cb] w9 (fun e w' => e = .returned (.bool true) ∧ (w'.cell? ⟨ab, ao + k, none⟩ = some (.slice Ra W Ca) ∧ w'.cell? ⟨bb, bo + k, none⟩ = some (.slice Rb W Cb) ∧ Hid (Below w.heap.size w w')))) := Lib.hid (fun w9 h9 => by
        refine (biSameBits (f k) Ra Rb W Ca Cb hW w9 (hda.below h9.2.2.out) (hdb.below h9.2.2.out)).mono ?_
        rintro e w' ⟨rfl, hb⟩
        have h8 : Below w.heap.size w w' := h9.2.2.out.trans (hb.mono h9.2.2.out.size)
        exact ⟨rfl, (h8.cell (p := ⟨ab, ao + k, none⟩) hab).trans hra, (h8.cell (p := ⟨bb, bo + k, none⟩) hbb).trans hrb, Lib.hid h8⟩)
      have hs0 : wo.drew.cell? ⟨ab, ao + k, none⟩ = some (.slice Ra W Ca) ∧ wo.drew.cell? ⟨bb, bo + k, none⟩ = some (.slice Rb W Cb) ∧ Hid (Below w.heap.size w wo.drew) := ⟨(HBo.out.drew.cell (p := ⟨ab, ao + k, none⟩) hab).trans hra, (HBo.out.drew.cell (p := ⟨bb, bo + k, none⟩) hbb).trans hrb, Lib.hid HBo.out.drew⟩
      clear har hbr hda hdb hra hrb
      go_wp2_with fail
      go_region_held3 (fun w' => w'.cell? ⟨ab, ao + k, none⟩ = some (.slice Ra W Ca) ∧ w'.cell? ⟨bb, bo + k, none⟩ = some (.slice Rb W Cb) ∧ Hid (Below w.heap.size w w'))
        (first | exact hs0 | exact hs3)
        (first | (go_at_call 26; refine (HX.out _ (by assumption)).mono ?_; rintro e w3 ⟨rfl, hs3⟩))
      all_goals
        have HB3 : Hid (Below w.heap.size w w3) := hs3.2.2
        clear hs0 hs3 HX
        go_wp2_with fail
        go_roundw
        case rel => exact ⟨k + 1, by omega, by go_num, HB3⟩
        case measure => simp [intOf]; omega
    · obtain rfl : k = H := by omega
      go_wp2_with fail
      go_ret
      exact ⟨rfl, HBo.out⟩

theorem m_ghblack (g : Nat) (w : World) : (method 243 78 (.pointer (some ⟨g, 0, none⟩)) "GetBlackMatrix").run Try.prog w = .ok (68, .pointer (some ⟨g, 0, none⟩)) w := by kernel_rfl
def BmPost (Z : Nat → Nat → Bool) (W H : Nat) (w : World) (e : Ending) (w' : World) : Prop := ∃ p g ws, e = .returned (.pointer (some ⟨p, 0, none⟩)) ∧ Hid (BM w' p g ws W H) ∧ Hid (∀ x y, x < W → y < H → mb ws W x y = Z y x) ∧ Below w.heap.size w w'
set_option maxRecDepth 100000 in
set_option maxHeartbeats 6400000 in
theorem blackG (Z : Nat → Nat → Bool) (W H N d l c : Nat) (hW1 : 1 ≤ W) (hW : W ≤ 200) (hH1 : 1 ≤ H) (hH : H ≤ 200) (hdl : TwoOk d l) (hmid : Middle Z H W) (hN : N = W * H) (A : Option Addr) (w : World) (hr : Rd w A N (fun j => .int .u8 ((gr Z W d l j : Nat) : Int))) :
    Calls Try.prog 24 #[.int .i64 W, .int .i64 H, .slice A N c, .bool false] w (BmPost Z W H w) := by
  have HSR := Lib.hid (source2 W H N A c (fun j => ((gr Z W d l j : Nat) : Int)) hW1 hH1 hW hH hN w hr)
  have HDL := Lib.hid hdl
  have HMI := Lib.hid hmid
  have HNN := Lib.hid hN
  have hneq2 : ∀ X, (binOp .neq 51 .nilIface .nilIface).run Try.prog X = .ok (.bool false) X := fun X => rfl
  clear hr hdl hmid hN
  go_enter Try.func24, Try.ntmps24
  go_wp2_with fail
  refine HSR.out.mono ?_
  rintro e w1 ⟨p, A1, c1, rfl, hs, hnc, hcm, hrd, hb1⟩
  have HS1 := Lib.hid hs
  have HB1 := Lib.hid hb1
  have HNW := Lib.hid (ghNew w1 p)
  clear hs hb1 HSR
  go_wp2_with fail
  refine HNW.out.mono ?_
  rintro e w2 ⟨g, bk, e0, rfl, hg, hg1, hbk1, hb2⟩
  have HB2 := Lib.hid (HB1.out.trans (hb2.mono HB1.out.size))
  have HBL := Lib.hid (ghBlack Z W H N d l c1 g p bk e0 hW1 hW hH1 hH HDL.out HMI.out HNN.out hnc hcm A1 w2 hg.out (SrcIs.below HS1.out hb2) (hrd.out.below hb2) (fun a ha => by
    by_cases h0 : 0 < N
    · obtain ⟨ab, ao, e, hlt, _⟩ := hrd.out h0
      rw [ha] at e; injection e with e; subst e
      dsimp only; omega
    · exfalso
      have : 0 < W * H := Nat.mul_pos (by omega) (by omega)
      have := HNN.out; omega) (by have := HS1.out.lt; omega))
  have HGB : Hid (w.heap.size ≤ g ∧ w.heap.size ≤ bk) := Lib.hid (by have := HB1.out.size; omega)
  have hm := fun X => m_ghblack g X
  clear hg hb2 hrd HNW hnc hcm
  go_wp2_with fail
  refine HBL.out.mono ?_
  rintro e w3 ⟨pm, gm, ws, rfl, hbm, hmb, hmo⟩
  have HB3 : Hid (Below w.heap.size w w3) := Lib.hid (HB2.out.trans (hmo.out.below HB2.out.size (fun k hk => by have := HGB.out; rcases hk with hk | hk <;> omega)))
  clear HBL hm
  go_wp2_with fail
  go_ret
  exact ⟨pm, gm, ws, rfl, hbm, hmb, HB3.out⟩

def OutPost (Z : Nat → Nat → Bool) (W H : Nat) (w : World) (e : Ending) (w' : World) : Prop := ∃ G, e = .returned (.tuple #[.slice (some ⟨G, 0, none⟩) H H, .bool true]) ∧ Hid (Rows2 w' (some ⟨G, 0, none⟩) H W Z) ∧ Below w.heap.size w w'
set_option maxRecDepth 100000 in
set_option maxHeartbeats 3200000 in
theorem blackMatrix (Z : Nat → Nat → Bool) (W H N c : Nat) (hy : Bool) (hW : W ≤ 200) (hH : H ≤ 200) (A : Option Addr) (w : World) (hb : Calls Try.prog 24 #[.int .i64 W, .int .i64 H, .slice A N c, .bool hy] w (BmPost Z W H w)) :
    Calls Try.prog 17 #[.int .i64 W, .int .i64 H, .slice A N c, .bool hy] w (OutPost Z W H w) := by
  have HB := Lib.hid hb
  have heq : ∀ p X, (binOp .eql 58 (.pointer (some ⟨p, 0, none⟩)) (.pointer none)).run Try.prog X = .ok (.bool false) X := fun p X => by rfl
  clear hb
  go_enter Try.func17, Try.ntmps17
  go_wp2_with fail
  refine HB.out.mono ?_
  rintro e w1 ⟨p, g, ws, rfl, hbm, hmb, hb1⟩
  have HRO := Lib.hid (rowsOf p g W H ws Z (by omega) (by omega) w1 hbm.out hmb.out)
  have HB1 := Lib.hid hb1
  clear hbm hmb hb1 HB
  go_wp2_with fail
  refine HRO.out.mono ?_
  rintro e w2 ⟨G, rfl, hr, hb2⟩
  have HB2 := Lib.hid (HB1.out.trans (hb2.mono HB1.out.size))
  clear hb2 HRO
  go_wp2_with fail
  go_ret2
  exact ⟨G, rfl, hr, HB2.out⟩
end Go.Proofs.Ythgnmcofclndlaa
