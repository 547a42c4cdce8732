/-
  GetMatrix of a part as wide as the picture, walked. No condition beyond the bounds that the theorem states.
-/
import Derived.Test.YthgnmcofclndlaaPMA
import Derived.Test.YthgnmcofclndlaaPXT
import Derived.Laws.CopyOwn
namespace Go.Proofs.Ythgnmcofclndlaa
open Go.RowKit Go.Qz
set_option linter.unusedVariables false

theorem partRows_len (f : Nat → Int) (W l t wd : Nat) : ∀ k, (partRows f W l t wd k).length = wd * k
  | 0 => by simp [partRows]
  | k + 1 => by simp [partRows, partRows_len f W l t wd k, Nat.mul_add]
theorem partRows_full (f : Nat → Int) (W t : Nat) : ∀ k, partRows f W 0 t W k = (List.range (W * k)).map (fun j => .int .u8 (f (t * W + j)))
  | 0 => by simp [partRows]
  | k + 1 => by
    simp only [partRows]
    rw [partRows_full f W t k, Nat.mul_add, Nat.mul_one, List.range_add, List.map_append, List.map_map]
    congr 1
    apply List.map_congr_left
    intro x _
    have : (t + k) * W + 0 + x = t * W + (W * k + x) := by rw [Nat.add_mul, Nat.mul_comm k W]; omega
    rw [this]; rfl
/-- A part, laid in new memory. -/
def PartPost (f : Nat → Int) (W l t wd ht : Nat) (w : World) (e : Ending) (w' : World) : Prop := ∃ b, e = .returned (.slice (some ⟨b, 0, none⟩) (wd * ht) (wd * ht)) ∧ Arr w' 5 b (partRows f W l t wd ht) ∧ Below w.heap.size w w'

set_option maxRecDepth 100000 in
set_option maxHeartbeats 3200000 in
theorem matrix_wide (p : Nat) (A : Option Addr) (N c W H t ht : Nat) (f : Nat → Int) (hN : N = W * H) (hNc : N ≤ c) (hc : c ≤ maxLen) (hW : 1 ≤ W) (hW2 : W ≤ 60) (hH2 : H ≤ 60) (hh1 : 1 ≤ ht) (hne : ht ≠ H) (h2 : t + ht ≤ H) (w : World) (hs : SrcIs w p A N c W H 0 t W ht) (hr : Rd w A N (fun j => .int .u8 (f j))) :
    Calls Try.prog 57 #[.pointer (some ⟨p, 0, none⟩)] w (PartPost f W 0 t W ht w) := by
  have a0 := hs.cell? 0
  have a1 := hs.cell? 1
  have a2 := hs.cell? 2
  have a3 := hs.cell? 3
  have a4 := hs.cell? 4
  have a5 := hs.cell? 5
  have a6 := hs.cell? 6
  simp only [List.getElem?_cons_zero, List.getElem?_cons_succ] at a0 a1 a2 a3 a4 a5 a6
  have HWW := Lib.hid (getWidth p 0 W w a0)
  have HHH := Lib.hid (getHeight p 0 ht w a1)
  have q1 : ((W : Int) == (W : Int)) = true := by simp
  have q2 : ((ht : Int) == (H : Int)) = false := by simp; omega
  obtain ⟨ar, har⟩ : ∃ ar, ar = W * ht := ⟨_, rfl⟩
  have ea : (W : Int) * (ht : Int) = (ar : Int) := by rw [har]; simp
  obtain ⟨io, hio⟩ : ∃ io, io = t * W := ⟨_, rfl⟩
  have ei : (t : Int) * (W : Int) = (io : Int) := by rw [hio]; simp
  obtain ⟨hi, hhi⟩ : ∃ hi, hi = io + ar := ⟨_, rfl⟩
  have eh : (io : Int) + (ar : Int) = (hi : Int) := by omega
  have hNl : N ≤ 3600 := by rw [hN]; exact Nat.mul_le_mul hW2 hH2
  have hhN : hi ≤ N := by
    have h5 : (t + ht) * W ≤ H * W := Nat.mul_le_mul_right _ h2
    have h6 : (t + ht) * W = io + ar := by rw [Nat.add_mul, hio, har, Nat.mul_comm ht W]
    have h7 : H * W = N := by rw [hN, Nat.mul_comm]
    omega
  have har1 : 1 ≤ ar := by rw [har]; exact Nat.mul_pos hW hh1
  have HPR : Hid (partRows f W 0 t W ht = (List.range ar).map (fun j => .int .u8 (f (io + j)))) := Lib.hid (by rw [partRows_full, ← har, ← hio])
  have HPP : Hid (PartPost f W 0 t W ht w = fun e w' => ∃ b, e = .returned (.slice (some ⟨b, 0, none⟩) ar ar) ∧ Arr w' 5 b (partRows f W 0 t W ht) ∧ Below w.heap.size w w') := Lib.hid (by unfold PartPost; rw [← har])
  have hmk := fun X => run_make1 (P := Try.prog) 22 5 (.int .u8 0) 1 Try.underlying22 Try.infoByte rfl (by decide) ar (by omega) .i64 .i64 ar rfl X
  have hpl := hs.lt
  obtain ⟨b0, off, rfl, hb0, hcell⟩ := hr (by omega)
  have hc2 : c ≤ 9223372036854775807 := by unfold maxLen at hc; omega
  have g1 : hi ≤ c := by omega
  have g2 : io < c := by omega
  have g3 : (c = io) = False := by simp; omega
  have g4 : (hi : Int) ≤ (c : Int) := by omega
  have g5 : (io : Int) ≤ (hi : Int) := by omega
  have g6 : hi - io = ar := by omega
  have g7 : (io : Int) < (c : Int) := by omega
  have HCE := Lib.hid (fun j (hj : j < ar) => hcell (io + j) (by omega))
  rw [HPP.out]
  clear hs hr har hio hhi hN hcell hne h2 HPP hc
  go_enter Try.func57, Try.ntmps57
  go_wp2_with fail
  refine HWW.out.mono ?_
  rintro e w1 ⟨rfl, rfl⟩
  go_wp2_with fail
  refine HHH.out.mono ?_
  rintro e w1 ⟨rfl, rfl⟩
  go_wp2_with fail
  have hA := arr_zeros w 5 ar (.int .u8 0)
  have hB : Below w.heap.size w (w.alloc (.cells (zeros ar (.int .u8 0)) 5)) := (Below.refl _ _).alloc (Nat.le_refl _) _
  have c2 := (hB.cell (p := ⟨p, 2, none⟩) hpl).trans a2
  have c3 := (hB.cell (p := ⟨p, 3, none⟩) hpl).trans a3
  have c5 := (hB.cell (p := ⟨p, 5, none⟩) hpl).trans a5
  have c6 := (hB.cell (p := ⟨p, 6, none⟩) hpl).trans a6
  have HD : Hid (∀ j (hj : j < ar), (w.alloc (.cells (zeros ar (.int .u8 0)) 5)).cell? ⟨b0, off + (io + j), none⟩ = some (.int .u8 (f (io + j)))) := Lib.hid (fun j hj => (hB.cell (p := ⟨b0, off + (io + j), none⟩) hb0).trans (HCE.out j hj))
  generalize w.alloc (.cells (zeros ar (.int .u8 0)) 5) = W1 at *
  clear a0 a1 a2 a3 a4 a5 a6 HCE hmk HWW HHH
  go_quiet (fail)
  obtain ⟨W2, hW2⟩ : ∃ W2, W2 = W1.drewN nq := ⟨_, rfl⟩
  have hA2 : Arr W2 5 w.heap.size (List.replicate ar (.int .u8 0)) := by rw [hW2]; exact hA
  have hB2 : Below w.heap.size w W2 := by rw [hW2]; exact below_drewN hB _
  have d2 : W2.cell? ⟨p, 2, none⟩ = some (.slice (some ⟨b0, off, none⟩) N c) := by rw [hW2]; exact c2
  have d3 : W2.cell? ⟨p, 3, none⟩ = some (.int .i64 W) := by rw [hW2]; exact c3
  have HD2 : Hid (∀ j (hj : j < ar), W2.cell? ⟨b0, off + (io + j), none⟩ = some (.int .u8 (f (io + j)))) := Lib.hid (by rw [hW2]; exact HD.out)
  rw [← hW2]
  clear hW2 hA hB c2 c3 c5 c6 HD
  have HA := Lib.hid hA2
  have HB := Lib.hid hB2
  obtain ⟨cs, hcs⟩ : ∃ cs : List Value, cs = (List.range ar).map (fun j => .int .u8 (f (io + j))) := ⟨_, rfl⟩
  have HCL : Hid (cs.length = ar) := Lib.hid (by rw [hcs]; simp)
  have HCS : Hid (∀ j v, cs[j]? = some v → W2.cell? ((⟨b0, off + io, none⟩ : Addr).add j) = some v) := Lib.hid (fun j v hj => by
    have hjl : j < ar := by
      rcases Nat.lt_or_ge j ar with h | h
      · exact h
      · rw [List.getElem?_eq_none (by rw [HCL.out]; exact h)] at hj; cases hj
    have hplain : (⟨b0, off + io, none⟩ : Addr).add j = ⟨b0, off + (io + j), none⟩ := by unfold Addr.add; split <;> simp_all <;> omega
    rw [hplain, HD2.out j hjl]
    rw [hcs] at hj
    simp [hjl] at hj
    rw [hj])
  have HONE : Hid (∀ v ∈ cs, v.oneCell' = true) := Lib.hid (fun v hv => by
    rw [hcs] at hv
    obtain ⟨j, _, rfl⟩ := List.mem_map.1 hv
    rfl)
  have HCC := Lib.hid hcs
  clear hA2 hB2 hcs
  go_wp2_with (refine wpList_copy_splice rfl _ _ 22 22 rfl 5 Try.underlying22 (by kernel_rfl) _ _ _ _ _ _ rfl rfl w.heap.size 0 _ 5 HA.out cs (by rw [HCL.out]; simp) (fun _ => ⟨rfl, _, rfl, HCS.out⟩) (by rw [HCL.out]; simp) HONE.out w.heap.size w HB.out (Nat.le_refl _) ?_)
  intro w1 HG hb1
  have HB1 := Lib.hid hb1
  clear hb1
  go_wp2_with fail
  go_ret
  refine ⟨w.heap.size, rfl, ?_, HB1.out⟩
  have h := HG.out
  rw [HPR.out, ← HCC.out]
  have hsp : splice (List.replicate ar (.int .u8 0)) 0 cs = cs := by simp [splice, HCL.out]
  rw [hsp] at h
  exact h
end Go.Proofs.Ythgnmcofclndlaa
