/-
  GetMatrix of a narrower part, row by row, walked. No condition beyond the bounds that the theorem states.
-/
import Derived.Test.YthgnmcofclndlaaPMB
import Derived.StillTailTactics
namespace Go.Proofs.Ythgnmcofclndlaa
open Go.RowKit Go.Qz
set_option linter.unusedVariables false

theorem rows_splice (f : Nat → Int) (W l t wd ht k : Nat) (hk : k < ht) (z : Value) :
    splice (partRows f W l t wd k ++ List.replicate (wd * (ht - k)) z) (wd * k) ((List.range wd).map (fun x => .int .u8 (f ((t + k) * W + l + x)))) = partRows f W l t wd (k + 1) ++ List.replicate (wd * (ht - (k + 1))) z := by
  have hl := partRows_len f W l t wd k
  have e : wd * (ht - k) = wd * (ht - (k + 1)) + wd := by
    obtain ⟨d, hd⟩ : ∃ d, d = ht - (k + 1) := ⟨_, rfl⟩
    rw [← hd, show ht - k = d + 1 by omega, Nat.mul_add, Nat.mul_one]
  unfold splice
  rw [List.take_append_of_le_length (by omega), List.take_of_length_le (by omega)]
  rw [List.drop_append, List.drop_eq_nil_of_le (by simp; omega)]
  simp only [partRows, List.nil_append, List.append_assoc, List.length_map, List.length_range, List.drop_replicate]
  congr 3
  rw [e, hl]; omega

set_option maxRecDepth 100000 in
set_option maxHeartbeats 3200000 in
theorem matrix_rows (p : Nat) (A : Option Addr) (N c W H l t wd ht : Nat) (f : Nat → Int) (hN : N = W * H) (hNc : N ≤ c) (hc : c ≤ maxLen) (hW : 1 ≤ W) (hW2 : W ≤ 60) (hH2 : H ≤ 60) (hh1 : 1 ≤ ht) (hw1 : 1 ≤ wd) (hne : wd ≠ W) (h1 : l + wd ≤ W) (h2 : t + ht ≤ H) (w : World) (hs : SrcIs w p A N c W H l t wd ht) (hr : Rd w A N (fun j => .int .u8 (f j))) :
    Calls Try.prog 57 #[.pointer (some ⟨p, 0, none⟩)] w (PartPost f W l t wd ht w) := by
  have a0 := hs.cell? 0
  have a1 := hs.cell? 1
  have a2 := hs.cell? 2
  have a3 := hs.cell? 3
  have a4 := hs.cell? 4
  have a5 := hs.cell? 5
  have a6 := hs.cell? 6
  simp only [List.getElem?_cons_zero, List.getElem?_cons_succ] at a0 a1 a2 a3 a4 a5 a6
  have HWW := Lib.hid (getWidth p 0 wd w a0)
  have HHH := Lib.hid (getHeight p 0 ht w a1)
  have q1 : ((wd : Int) == (W : Int)) = false := by simp; omega
  obtain ⟨ar, har⟩ : ∃ ar, ar = wd * ht := ⟨_, rfl⟩
  have ea : (wd : Int) * (ht : Int) = (ar : Int) := by rw [har]; simp
  obtain ⟨tw, htw⟩ : ∃ tw, tw = t * W := ⟨_, rfl⟩
  have ei : (t : Int) * (W : Int) = (tw : Int) := by rw [htw]; simp
  obtain ⟨io, hio⟩ : ∃ io, io = tw + l := ⟨_, rfl⟩
  have ej : (tw : Int) + (l : Int) = (io : Int) := by omega
  have hNl : N ≤ 3600 := by rw [hN]; exact Nat.mul_le_mul hW2 hH2
  have hwd2 : wd ≤ 60 := by omega
  have hht2 : ht ≤ 60 := by omega
  have hl2 : l ≤ 60 := by omega
  have htwl : tw ≤ 3600 := by rw [htw]; exact Nat.mul_le_mul (show t ≤ 60 by omega) hW2
  have harl : ar ≤ 3600 := by rw [har]; exact Nat.mul_le_mul hwd2 hht2
  have HIN : Hid (∀ k, k < ht → (t + k) * W + l + wd ≤ N) := Lib.hid (fun k hk => by
    have h5 : (t + k + 1) * W ≤ H * W := Nat.mul_le_mul_right _ (by omega)
    have h6 : (t + k + 1) * W = (t + k) * W + W := by rw [Nat.add_mul, Nat.one_mul]
    have h7 : H * W = N := by rw [hN, Nat.mul_comm]
    omega)
  have hiol : io ≤ 3700 := by omega
  have HIO : Hid (io = t * W + l) := Lib.hid (by rw [hio, htw])
  have HAR := Lib.hid har
  have HPP : Hid (PartPost f W l t wd ht w = fun e w' => ∃ b, e = .returned (.slice (some ⟨b, 0, none⟩) ar ar) ∧ Arr w' 5 b (partRows f W l t wd ht) ∧ Below w.heap.size w w') := Lib.hid (by unfold PartPost; rw [← har])
  have hmk := fun X => run_make1 (P := Try.prog) 22 5 (.int .u8 0) 1 Try.underlying22 Try.infoByte rfl (by decide) ar (by omega) .i64 .i64 ar rfl X
  have hpl := hs.lt
  obtain ⟨b0, off, rfl, hb0, hcell⟩ := hr (by have := HIN.out 0 (by omega); omega)
  have hc2 : c ≤ 9223372036854775807 := by unfold maxLen at hc; omega
  have HCE := Lib.hid hcell
  rw [HPP.out]
  clear hs hr har hio htw hN hcell hne h1 h2 HPP hc
  go_enter Try.func57, Try.ntmps57
  go_wp2_with fail
  refine HWW.out.mono ?_
  rintro e w1 ⟨rfl, rfl⟩
  go_wp2_with fail
  refine HHH.out.mono ?_
  rintro e w1 ⟨rfl, rfl⟩
  go_wp2_with fail
  have hA := arr_zeros w 5 ar (.int .u8 0)
  have hB : Below w.heap.size w (w.alloc (.cells (zeros ar (.int .u8 0)) 5)) := (Below.refl _ _).alloc (Nat.le_refl _) _
  have c2 := (hB.cell (p := ⟨p, 2, none⟩) hpl).trans a2
  have c3 := (hB.cell (p := ⟨p, 3, none⟩) hpl).trans a3
  have c5 := (hB.cell (p := ⟨p, 5, none⟩) hpl).trans a5
  have c6 := (hB.cell (p := ⟨p, 6, none⟩) hpl).trans a6
  generalize w.alloc (.cells (zeros ar (.int .u8 0)) 5) = W1 at *
  have HA2 := Lib.hid a2
  have HA3 := Lib.hid a3
  clear a0 a1 a2 a3 a4 a5 a6 hmk HWW HHH
  go_quiet (fail)
  obtain ⟨W2, hW2⟩ : ∃ W2, W2 = W1.drewN nq := ⟨_, rfl⟩
  have hA2 : Arr W2 5 w.heap.size (List.replicate ar (.int .u8 0)) := by rw [hW2]; exact hA
  have hB2 : Below w.heap.size w W2 := by rw [hW2]; exact below_drewN hB _
  have d3 : W2.cell? ⟨p, 3, none⟩ = some (.int .i64 W) := by rw [hW2]; exact c3
  rw [← hW2]
  clear hW2 hA hB c2 c3 c5 c6
  go_wp2_with fail
  go_loopw [7, 8] (fun o y wr => ∃ k io' : Nat, k ≤ ht ∧ io' ≤ 8000 ∧ y = .int .i64 k ∧ o = .int .i64 io' ∧ Hid (io' = (t + k) * W + l) ∧ Arr wr 5 w.heap.size (partRows f W l t wd k ++ List.replicate (wd * (ht - k)) (.int .u8 0)) ∧ Below w.heap.size w wr) (fun _ y _ => ht - (intOf y).toNat)
  case atStart => exact ⟨0, io, by omega, by omega, rfl, rfl, Lib.hid (by rw [HIO.out]; simp), by simpa [partRows, ← HAR.out] using hA2, hB2⟩
  case round =>
    obtain ⟨k, io', hk, hiol', rfl, rfl, HK, hA3, hB3⟩ := hrel
    clear hA2 hB2 d3
    have c2 := (hB3.cell (p := ⟨p, 2, none⟩) hpl).trans HA2.out
    have c3 := (hB3.cell (p := ⟨p, 3, none⟩) hpl).trans HA3.out
    by_cases hlt : k < ht
    · have hin := HIN.out k hlt
      rw [← HK.out] at hin
      have hlt1 : (k : Int) < (ht : Int) := by omega
      obtain ⟨oo, hoo⟩ : ∃ oo, oo = wd * k := ⟨_, rfl⟩
      have eo : (k : Int) * (wd : Int) = (oo : Int) := by rw [hoo, Nat.mul_comm]; simp
      obtain ⟨hi, hhi⟩ : ∃ hi, hi = io' + wd := ⟨_, rfl⟩
      have eh : (io' : Int) + (wd : Int) = (hi : Int) := by omega
      have hoa : oo + wd ≤ ar := by
        have h8 : wd * (k + 1) ≤ wd * ht := Nat.mul_le_mul_left _ (by omega)
        rw [Nat.mul_add, Nat.mul_one] at h8
        have := HAR.out
        omega
      have g1 : hi ≤ c := by omega
      have g2 : io' < c := by omega
      have g3 : (c = io') = False := by simp; omega
      have g4 : (hi : Int) ≤ (c : Int) := by omega
      have g5 : (io' : Int) ≤ (hi : Int) := by omega
      have g6 : hi - io' = wd := by omega
      have g7 : (io' : Int) < (c : Int) := by omega
      have m1 : (oo : Int) ≤ (ar : Int) := by omega
      have m2 : oo < ar := by omega
      have m3 : (ar = oo) = False := by simp; omega
      have m4 : (oo : Int) < (ar : Int) := by omega
      have hok : oo ≤ 3600 := by omega
      have HI8 : Hid (io' + W ≤ 8000) := Lib.hid (by omega)
      have hw3 : IntKind.i64.wrap (hi : Int) = (hi : Int) := by rw [IntKind.wrap_i64]; omega
      have HA := Lib.hid hA3
      have HB := Lib.hid hB3
      have HRL : Hid (partRows f W l t wd (k + 1) ++ List.replicate (wd * (ht - (k + 1))) (.int .u8 0) = splice (partRows f W l t wd k ++ List.replicate (wd * (ht - k)) (.int .u8 0)) oo ((List.range wd).map (fun x => .int .u8 (f (io' + x))))) := Lib.hid (by
        rw [← rows_splice f W l t wd ht k hlt, hoo, HK.out])
      have HLEN : Hid ((partRows f W l t wd k ++ List.replicate (wd * (ht - k)) (Value.int .u8 0)).length = ar) := Lib.hid (by
        rw [List.length_append, partRows_len, List.length_replicate, ← Nat.mul_add, HAR.out]; congr 1; omega)
      obtain ⟨cs, hcs⟩ : ∃ cs : List Value, cs = (List.range wd).map (fun x => .int .u8 (f (io' + x))) := ⟨_, rfl⟩
      rw [← hcs] at HRL
      have HCL : Hid (cs.length = wd) := Lib.hid (by rw [hcs]; simp)
      have HCS : Hid (∀ j v, cs[j]? = some v → wr.drew.cell? ((⟨b0, off + io', none⟩ : Addr).add j) = some v) := Lib.hid (fun j v hj => by
        have hjl : j < wd := by
          rcases Nat.lt_or_ge j wd with h | h
          · exact h
          · rw [List.getElem?_eq_none (by rw [HCL.out]; exact h)] at hj; cases hj
        have hplain : (⟨b0, off + io', none⟩ : Addr).add j = ⟨b0, off + (io' + j), none⟩ := by unfold Addr.add; split <;> simp_all <;> omega
        have hc9 := (HB.out.cell (p := ⟨b0, off + (io' + j), none⟩) hb0).trans (HCE.out (io' + j) (by omega))
        rw [hplain]
        show wr.cell? _ = _
        rw [hc9]
        rw [hcs] at hj
        simp [hjl] at hj
        rw [hj])
      have HONE : Hid (∀ v ∈ cs, v.oneCell' = true) := Lib.hid (fun v hv => by
        rw [hcs] at hv
        obtain ⟨j, _, rfl⟩ := List.mem_map.1 hv
        rfl)
      have HHT := Lib.hid hhi
      have HKN : Hid ((t + (k + 1)) * W + l = io' + W) := Lib.hid (by rw [HK.out, ← Nat.add_assoc, Nat.add_mul (t + k) 1 W, Nat.one_mul]; omega)
      clear hA3 hB3 hcs hhi hoo hin HK
      go_wp2_with fail
      go_still_tail 12, (by kernel_rfl)
      change wpList _ _ _ _ _ wr.drew
      have HA' : Hid (Arr wr.drew 5 w.heap.size (partRows f W l t wd k ++ List.replicate (wd * (ht - k)) (.int .u8 0))) := Lib.hid HA.out
      have HB' : Hid (Below w.heap.size w wr.drew) := Lib.hid HB.out.drew
      have HA2' := HA2.out
      clear c2 c3 HA HB
      generalize wr.drew = W3 at *
      go_wp2_with (refine wpList_copy_splice rfl _ _ 22 22 rfl 5 Try.underlying22 (by kernel_rfl) _ _ _ _ _ _ rfl rfl w.heap.size oo _ 5 HA'.out cs (by rw [HCL.out]; exact (Nat.min_eq_left (by omega)).symm) (fun _ => ⟨by first | rfl | simp, _, rfl, HCS.out⟩) (by rw [HCL.out, HLEN.out]; exact hoa) HONE.out w.heap.size w HB'.out (Nat.le_refl _) ?_)
      intro w5 HG hb5
      have HB5 := Lib.hid hb5
      have e3 := (hb5.cell (p := ⟨p, 3, none⟩) hpl).trans HA3.out
      clear hb5 HA2'
      go_wp2_with fail
      go_roundw
      case rel => exact ⟨k + 1, io' + W, by omega, HI8.out, by go_num, by go_num, Lib.hid HKN.out.symm, by rw [HRL.out]; exact HG.out, HB5.out⟩
      case measure => simp [intOf]; omega
    · obtain rfl : k = ht := by omega
      have HA : Hid (Arr wr 5 w.heap.size (partRows f W l t wd k)) := Lib.hid (by simpa using hA3)
      have HB := Lib.hid hB3
      clear hA3 hB3 hlt
      go_wp2_with fail
      go_ret
      exact ⟨w.heap.size, rfl, HA.out, HB.out⟩
end Go.Proofs.Ythgnmcofclndlaa
