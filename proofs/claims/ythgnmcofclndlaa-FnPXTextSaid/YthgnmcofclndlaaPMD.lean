/-
  GetMatrix, all three ways; impl.GrayCrop, walked. No condition beyond the bounds that each theorem states.
-/
import Derived.Test.YthgnmcofclndlaaPMC
namespace Go.Proofs.Ythgnmcofclndlaa
open Go.RowKit Go.Qz
set_option linter.unusedVariables false

/-- The gray at a place of a part. -/
def prI (f : Nat → Int) (W l t wd ht j : Nat) : Int := intOf ((partRows f W l t wd ht).getD j undef)
theorem partRows_u8 (f : Nat → Int) (W l t wd : Nat) : ∀ k, ∀ v ∈ partRows f W l t wd k, ∃ i, v = .int .u8 i
  | 0 => by simp [partRows]
  | k + 1 => by
    intro v hv
    simp only [partRows, List.mem_append, List.mem_map] at hv
    rcases hv with hv | ⟨x, _, rfl⟩
    · exact partRows_u8 f W l t wd k v hv
    · exact ⟨_, rfl⟩
theorem prI_eq (f : Nat → Int) (W l t wd ht j : Nat) (hj : j < wd * ht) : (partRows f W l t wd ht).getD j undef = .int .u8 (prI f W l t wd ht j) := by
  have hl := partRows_len f W l t wd ht
  have hm : (partRows f W l t wd ht).getD j undef ∈ partRows f W l t wd ht := by
    rw [List.getD_eq_getElem?_getD, List.getElem?_eq_getElem (by omega)]; exact List.getElem_mem _
  obtain ⟨i, hi⟩ := partRows_u8 f W l t wd ht _ hm
  unfold prI
  rw [hi]; rfl

/-- The pixels of a part, in some memory. -/
def MatPost (f : Nat → Int) (W l t wd ht : Nat) (w : World) (e : Ending) (w' : World) : Prop := ∃ A c, e = .returned (.slice A (wd * ht) c) ∧ Rd w' A (wd * ht) (fun j => .int .u8 (prI f W l t wd ht j)) ∧ Below w.heap.size w w'
theorem MatPost.of_part {f : Nat → Int} {W l t wd ht : Nat} {w : World} {e : Ending} {w' : World} (h : PartPost f W l t wd ht w e w') : MatPost f W l t wd ht w e w' := by
  obtain ⟨b, rfl, ha, hb⟩ := h
  refine ⟨_, _, rfl, ?_, hb⟩
  have hl := partRows_len f W l t wd ht
  rw [← hl]
  refine ha.rd _ fun j hj => ?_
  rw [← prI_eq f W l t wd ht j (by omega), List.getElem?_eq_getElem hj, List.getD_eq_getElem?_getD, List.getElem?_eq_getElem hj]; rfl

theorem matrix_any (p : Nat) (A : Option Addr) (N c W H l t wd ht : Nat) (f : Nat → Int) (hN : N = W * H) (hNc : N ≤ c) (hc : c ≤ maxLen) (hW : 1 ≤ W) (hW2 : W ≤ 60) (hH2 : H ≤ 60) (hh1 : 1 ≤ ht) (hw1 : 1 ≤ wd) (h1 : l + wd ≤ W) (h2 : t + ht ≤ H) (w : World) (hs : SrcIs w p A N c W H l t wd ht) (hr : Rd w A N (fun j => .int .u8 (f j))) :
    Calls Try.prog 57 #[.pointer (some ⟨p, 0, none⟩)] w (MatPost f W l t wd ht w) := by
  by_cases hne : wd = W
  · subst hne
    obtain rfl : l = 0 := by omega
    by_cases hh : ht = H
    · subst hh
      obtain rfl : t = 0 := by omega
      refine (matrix_whole p A N c wd ht 0 0 w hs).mono ?_
      rintro e w' ⟨rfl, rfl⟩
      refine ⟨A, c, by rw [hN], ?_, Below.refl _ _⟩
      rw [← hN]
      refine hr.congr fun j hj => ?_
      rw [← prI_eq f wd 0 0 wd ht j (by omega), partRows_full]
      have : j < wd * ht := by omega
      simp [List.getD_eq_getElem?_getD, this]
    · exact (matrix_wide p A N c wd H t ht f hN hNc hc hW hW2 hH2 hh1 hh h2 w hs hr).mono fun _ _ h => .of_part h
  · exact (matrix_rows p A N c W H l t wd ht f hN hNc hc hW hW2 hH2 hh1 hw1 hne h1 h2 w hs hr).mono fun _ _ h => .of_part h

theorem m_crop (p : Nat) (w : World) : (method 243 72 (.pointer (some ⟨p, 0, none⟩)) "Crop").run Try.prog w = .ok (55, .pointer (some ⟨p, 0, none⟩)) w := by kernel_rfl
theorem m_matrix (p : Nat) (w : World) : (method 243 72 (.pointer (some ⟨p, 0, none⟩)) "GetMatrix").run Try.prog w = .ok (57, .pointer (some ⟨p, 0, none⟩)) w := by kernel_rfl

/-- A part of a picture, copied. -/
def CropPost (f : Nat → Int) (W l t wd ht : Nat) (w : World) (e : Ending) (w' : World) : Prop := ∃ A c, e = .returned (.tuple #[.slice A (wd * ht) c, .bool true]) ∧ Hid (Rd w' A (wd * ht) (fun j => .int .u8 (prI f W l t wd ht j))) ∧ Below w.heap.size w w'

set_option maxRecDepth 100000 in
set_option maxHeartbeats 3200000 in
theorem grayCrop_ok (W H N : Nat) (A : Option Addr) (c l t wd ht : Nat) (f : Nat → Int) (hW : 1 ≤ W) (hH : 1 ≤ H) (hW2 : W ≤ 60) (hH2 : H ≤ 60) (hN : N = W * H) (hw1 : 1 ≤ wd) (hh1 : 1 ≤ ht) (h1 : l + wd ≤ W) (h2 : t + ht ≤ H) (w : World) (hr : Rd w A N (fun j => .int .u8 (f j))) :
    Calls Try.prog 8 #[.int .i64 W, .int .i64 H, .slice A N c, .int .i64 l, .int .i64 t, .int .i64 wd, .int .i64 ht] w (CropPost f W l t wd ht w) := by
  have HSRC := Lib.hid (source W H N A c f hW hH hW2 hH2 hN w hr)
  have g1 : ((l : Int) < 0) = False := by simp
  have g2 : ((t : Int) < 0) = False := by simp
  have g3 : ((wd : Int) < 1) = False := by simp; omega
  have g4 : ((ht : Int) < 1) = False := by simp; omega
  have g5 : ((W : Int) < (l : Int)) = False := by simp; omega
  have g6 : ((H : Int) < (t : Int)) = False := by simp; omega
  have g7 : ((W : Int) < (wd : Int)) = False := by simp; omega
  have g8 : ((H : Int) < (ht : Int)) = False := by simp; omega
  have HC1 := Lib.hid h1
  have HC2 := Lib.hid h2
  have HNN := Lib.hid hN
  obtain ⟨m, hm⟩ : ∃ m, m = wd * ht := ⟨_, rfl⟩
  have hml : m ≤ 3600 := by rw [hm]; exact Nat.mul_le_mul (show wd ≤ 60 by omega) (show ht ≤ 60 by omega)
  have HPP : Hid (CropPost f W l t wd ht w = fun e w' => ∃ A c, e = .returned (.tuple #[.slice A m c, .bool true]) ∧ Hid (Rd w' A m (fun j => .int .u8 (prI f W l t wd ht j))) ∧ Below w.heap.size w w') := Lib.hid (by unfold CropPost; rw [← hm])
  have HM := Lib.hid hm
  have heq : ∀ X, (binOp .eql 51 .nilIface .nilIface).run Try.prog X = .ok (.bool true) X := fun X => rfl
  have heq2 : ∀ X, (binOp .neq 51 .nilIface .nilIface).run Try.prog X = .ok (.bool false) X := fun X => rfl
  clear h1 h2 hN hr hm
  rw [HPP.out]
  go_enter Try.func8, Try.ntmps8
  go_wp2_with fail
  refine HSRC.out.mono ?_
  rintro e w1 ⟨p, A1, c1, rfl, hs, hnc, hcm, HR, hb⟩
  have HCR := Lib.hid (crop_ok p A1 N c1 W H 0 0 W H l t wd ht l t (by omega) (by omega) (by have := HC1.out; omega) (by have := HC2.out; omega) (by omega) (by omega) w1 hs)
  have hm1 := fun X => m_crop p X
  have HB := Lib.hid hb
  clear hs hb
  go_wp2_with fail
  refine HCR.out.mono ?_
  rintro e w2 ⟨q, rfl, hs2, hb2⟩
  have HR2 : Hid (Rd w2 A1 N (fun j => .int .u8 (f j))) := Lib.hid (HR.out.below hb2)
  have HMT := Lib.hid (matrix_any q A1 N c1 W H l t wd ht f HNN.out hnc hcm hW hW2 hH2 hh1 hw1 HC1.out HC2.out w2 hs2 HR2.out)
  have HB2 := Lib.hid (HB.out.trans (hb2.mono HB.out.size))
  have hm2 := fun X => m_matrix q X
  clear hs2 hb2 hm1
  go_wp2_with fail
  refine HMT.out.mono ?_
  rintro e w3 ⟨A3, c3, rfl, hr3, hb3⟩
  rw [← HM.out] at hr3 ⊢
  have HB3 := Lib.hid (HB2.out.trans (hb3.mono HB2.out.size))
  clear hb3 hm2
  go_wp2_with (at_builtin; refine wpList_copyTo _ _ 22 w.heap.size 5 (.int .u8 0) 1 _ 0 [] _ _ _ _ rfl rfl rfl rfl Try.underlying22 Try.infoByte rfl (fun j _ => rfl) (by decide) (World.ownsRow_nil _ _ _ _) hr3 (by omega) HB3.out.size ?_)
  intro v' w4 hown hg hb4
  obtain ⟨A', c', rfl, _, _, hrd⟩ := Rd.of_own hown
  have HR4 : Hid (Rd w4 A' m (fun j => .int .u8 (prI f W l t wd ht j))) := Lib.hid (by
    exact hrd.congr fun j hj => by simp [List.getD_eq_getElem?_getD, hj])
  have HB4 := Lib.hid (HB3.out.trans hb4)
  clear hr3 hown hg hb4 hrd
  go_wp2_with fail
  go_ret2
  exact ⟨_, _, rfl, HR4, HB4.out⟩

def RefPost (w : World) (e : Ending) (w' : World) : Prop := e = .returned (.tuple #[.slice none 0 0, .bool false]) ∧ Below w.heap.size w w'
set_option maxRecDepth 100000 in
set_option maxHeartbeats 3200000 in
theorem grayCrop_not (W H N : Nat) (A : Option Addr) (c l t wd ht : Nat) (f : Nat → Int) (hW : 1 ≤ W) (hH : 1 ≤ H) (hW2 : W ≤ 60) (hH2 : H ≤ 60) (hN : N = W * H) (hw1 : 1 ≤ wd) (hh1 : 1 ≤ ht) (hl9 : l ≤ 64) (ht9 : t ≤ 64) (hwd9 : wd ≤ 64) (hht9 : ht ≤ 64) (hne : W < l + wd ∨ H < t + ht) (w : World) (hr : Rd w A N (fun j => .int .u8 (f j))) :
    Calls Try.prog 8 #[.int .i64 W, .int .i64 H, .slice A N c, .int .i64 l, .int .i64 t, .int .i64 wd, .int .i64 ht] w (RefPost w) := by
  have HSRC := Lib.hid (source W H N A c f hW hH hW2 hH2 hN w hr)
  have g1 : ((l : Int) < 0) = False := by simp
  have g2 : ((t : Int) < 0) = False := by simp
  have g3 : ((wd : Int) < 1) = False := by simp; omega
  have g4 : ((ht : Int) < 1) = False := by simp; omega
  have HNE := Lib.hid hne
  clear hN hr hne
  by_cases c5 : W < l
  · have g5 : (W : Int) < (l : Int) := by omega
    clear c5
    go_enter Try.func8, Try.ntmps8
    go_wp2_with fail
    refine HSRC.out.mono ?_
    rintro e w1 ⟨p, A1, c1, rfl, hs, hnc, hcm, HR, hb⟩
    have HB := Lib.hid hb
    clear hs hb
    go_wp2_with fail
    go_ret2
    exact ⟨rfl, HB.out⟩
  have g5 : ((W : Int) < (l : Int)) = False := by simp; omega
  by_cases c6 : H < t
  · have g6 : (H : Int) < (t : Int) := by omega
    clear c5 c6
    go_enter Try.func8, Try.ntmps8
    go_wp2_with fail
    refine HSRC.out.mono ?_
    rintro e w1 ⟨p, A1, c1, rfl, hs, hnc, hcm, HR, hb⟩
    have HB := Lib.hid hb
    clear hs hb
    go_wp2_with fail
    go_ret2
    exact ⟨rfl, HB.out⟩
  have g6 : ((H : Int) < (t : Int)) = False := by simp; omega
  by_cases c7 : W < wd
  · have g7 : (W : Int) < (wd : Int) := by omega
    clear c5 c6 c7
    go_enter Try.func8, Try.ntmps8
    go_wp2_with fail
    refine HSRC.out.mono ?_
    rintro e w1 ⟨p, A1, c1, rfl, hs, hnc, hcm, HR, hb⟩
    have HB := Lib.hid hb
    clear hs hb
    go_wp2_with fail
    go_ret2
    exact ⟨rfl, HB.out⟩
  have g7 : ((W : Int) < (wd : Int)) = False := by simp; omega
  by_cases c8 : H < ht
  · have g8 : (H : Int) < (ht : Int) := by omega
    clear c5 c6 c7 c8
    go_enter Try.func8, Try.ntmps8
    go_wp2_with fail
    refine HSRC.out.mono ?_
    rintro e w1 ⟨p, A1, c1, rfl, hs, hnc, hcm, HR, hb⟩
    have HB := Lib.hid hb
    clear hs hb
    go_wp2_with fail
    go_ret2
    exact ⟨rfl, HB.out⟩
  have g8 : ((H : Int) < (ht : Int)) = False := by simp; omega
  clear c5 c6 c7 c8
  go_enter Try.func8, Try.ntmps8
  go_wp2_with fail
  refine HSRC.out.mono ?_
  rintro e w1 ⟨p, A1, c1, rfl, hs, hnc, hcm, HR, hb⟩
  have HCR := Lib.hid (crop_not p A1 N c1 W H 0 0 W H l t wd ht l t (by omega) (by omega) HNE.out (by omega) (by omega) (by omega) (by omega) w1 hs)
  have hm1 := fun X => m_crop p X
  have HB := Lib.hid hb
  clear hs hb
  go_wp2_with fail
  refine HCR.out.mono ?_
  rintro e w2 ⟨x, rfl, hx, hb2⟩
  obtain ⟨xb, rfl⟩ := hx
  have HB2 := Lib.hid (HB.out.trans (hb2.mono HB.out.size))
  have hneq2 : ∀ W, (binOp .neq 51 (.iface 90 (.pointer (some ⟨xb, 0, none⟩))) .nilIface).run Try.prog W = .ok (.bool true) W := fun W => run_neq_held_nil W _ _ _ errIface
  clear hb2
  go_wp2_with fail
  go_ret2
  exact ⟨rfl, HB2.out⟩
end Go.Proofs.Ythgnmcofclndlaa
