/-
  PXPart, walked. No condition beyond the bounds that the theorem states.
-/
import Derived.Test.YthgnmcofclndlaaPSR
namespace Go.Proofs.Ythgnmcofclndlaa
open Go.RowKit Go.Qz
set_option linter.unusedVariables false

/-- The bytes of the first rows of a part. -/
def partRows (f : Nat → Int) (W l t wd : Nat) : Nat → List Value
  | 0 => []
  | k + 1 => partRows f W l t wd k ++ (List.range wd).map (fun x => .int .u8 (f ((t + k) * W + l + x)))

set_option maxRecDepth 100000 in
set_option maxHeartbeats 3200000 in
theorem pxPart (A : Option Addr) (N c W H l t wd ht : Nat) (f : Nat → Int) (hN : N = W * H) (hNl : N ≤ 3600) (hNc : N ≤ c) (hc : c ≤ maxLen) (hW : 1 ≤ W) (hw1 : 1 ≤ wd) (h1 : l + wd ≤ W) (h2 : t + ht ≤ H) (hH : H ≤ 60) (hW2 : W ≤ 60) (w : World) (hr : Rd w A N (fun j => .int .u8 (f j))) :
    Calls Try.prog 10 #[.slice A N c, .int .i64 W, .int .i64 l, .int .i64 t, .int .i64 wd, .int .i64 ht] w fun e w' => ∃ v, e = .returned v ∧ w'.ownsRow w.heap.size 5 1 v (wd * ht) (partRows f W l t wd ht) ∧ Below w.heap.size w w' := by
  have HRD := Lib.hid hr
  have HNN := Lib.hid hN
  have hc2 : c ≤ 9223372036854775807 := by unfold maxLen at hc; omega
  have HC2 := Lib.hid hc2
  have ht2 : ht ≤ 60 := by omega
  have hl2 : l ≤ 60 := by omega
  have htt : t ≤ 60 := by omega
  have hwd : wd ≤ 60 := by omega
  have HTH := Lib.hid h2
  have HLW := Lib.hid h1
  clear hr hN hc hc2 h1 h2
  go_enter Try.func10, Try.ntmps10
  go_wp2_with fail
  go_loopw [13, 14] (fun v i wr => ∃ k Y n : Nat, k ≤ ht ∧ Y = t + k ∧ n = wd * k ∧ i = .int .i64 Y ∧ wr.ownsRow w.heap.size 5 1 v n (partRows f W l t wd k) ∧ Below w.heap.size w wr) (fun _ i _ => 200 - (intOf i).toNat)
  case atStart => exact ⟨0, t, 0, by omega, rfl, rfl, rfl, World.ownsRow_nil _ _ _ _, Below.refl _ _⟩
  case round =>
    obtain ⟨k, Y, n, hk, hY, hn, rfl, hown, hb⟩ := hrel
    have HO := Lib.hid hown
    have HB := Lib.hid hb
    have HNK := Lib.hid hn
    clear hown hb hn
    by_cases hlt : k < ht
    · have hlt1 : (Y : Int) < (t : Int) + (ht : Int) := by omega
      obtain ⟨m, hm⟩ : ∃ m, m = Y * W := ⟨_, rfl⟩
      have em : (Y : Int) * (W : Int) = (m : Int) := by rw [hm]; simp
      obtain ⟨lo, hlo⟩ : ∃ lo, lo = m + l := ⟨_, rfl⟩
      have el : (m : Int) + (l : Int) = (lo : Int) := by omega
      obtain ⟨hi, hhi⟩ : ∃ hi, hi = lo + wd := ⟨_, rfl⟩
      have eh : (lo : Int) + (wd : Int) = (hi : Int) := by omega
      have hhN : hi ≤ N := by
        have h5 : (Y + 1) * W ≤ H * W := Nat.mul_le_mul_right _ (by have := HTH.out; omega)
        have h6 : (Y + 1) * W = m + W := by rw [Nat.add_mul, hm]; omega
        have h7 : H * W = N := by rw [HNN.out, Nat.mul_comm]
        have := HLW.out
        omega
      obtain ⟨b0, off, hA, hb0, hcell⟩ := HRD.out (by omega)
      subst hA
      have HR : Hid (Rd wr (some ⟨b0, off + lo, none⟩) wd (fun x => .int .u8 (f (lo + x)))) := Lib.hid (fun h => ⟨b0, off + lo, rfl, Nat.lt_of_lt_of_le hb0 HB.out.size, fun j hj => by
        rw [Nat.add_assoc]
        exact (HB.out.cell (p := ⟨b0, off + (lo + j), none⟩) hb0).trans (hcell (lo + j) (by omega))⟩)
      have HPR : Hid (partRows f W l t wd (k + 1) = partRows f W l t wd k ++ (List.range wd).map (fun x => .int .u8 (f (lo + x)))) := Lib.hid (by
        simp only [partRows]
        rw [hlo, hm, hY])
      have hsub : hi - lo = wd := by omega
      have hml : m ≤ 3600 := by omega
      have hloc : lo < c := by omega
      have hloc2 : (lo : Int) < (c : Int) := by omega
      have hloc3 : (c = lo) = False := by simp; omega
      have hhic2 : (hi : Int) ≤ (c : Int) := by omega
      have hlohi2 : (lo : Int) ≤ (hi : Int) := by omega
      have hhic : hi ≤ c := by omega
      have hlohi : lo ≤ hi := by omega
      have hC := HC2.out
      have hY2 : Y ≤ 120 := by omega
      have hn0 : n ≤ 3600 := by rw [HNK.out]; exact Nat.mul_le_mul hwd (show k ≤ 60 by omega)
      have HYY := Lib.hid hY
      clear hm hlo hhi hcell hY
      go_wp2_with (at_builtin; refine wpList_copyTo _ _ 22 w.heap.size 5 (.int .u8 0) 1 _ n _ (some ⟨b0, off + lo, none⟩) wd _ (fun x => .int .u8 (f (lo + x))) rfl rfl rfl rfl Try.underlying22 Try.infoByte rfl (fun j _ => rfl) (by decide) HO.out HR.out (by omega) HB.out.size ?_)
      intro v' w' hown2 hg2 hb2
      have HO2 := Lib.hid hown2
      have HB2 := Lib.hid (HB.out.trans hb2)
      clear hown2 hg2 hb2 HO HB HR
      go_wp2_with fail
      go_roundw
      case rel => exact ⟨k + 1, Y + 1, n + wd, by omega, by have := HYY.out; omega, by rw [HNK.out, Nat.mul_add, Nat.mul_one], by go_num, by rw [HPR.out]; exact HO2.out, HB2.out⟩
      case measure => simp [intOf]; omega
    · obtain rfl : k = ht := by omega
      have hlt1 : ((Y : Int) < (t : Int) + (k : Int)) = False := by simp; omega
      have hY2 : Y ≤ 120 := by omega
      have HYY := Lib.hid hY
      clear hlt hY
      go_wp2_with fail
      go_ret
      exact ⟨_, rfl, by rw [← HNK.out]; exact HO.out, HB.out⟩
end Go.Proofs.Ythgnmcofclndlaa
