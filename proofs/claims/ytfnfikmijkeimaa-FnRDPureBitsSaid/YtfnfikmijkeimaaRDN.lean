/-
  A pure picture of a Data Matrix symbol: moduleSize, extractPureBits, walked. No condition beyond the bounds that each theorem states.
-/
import Derived.Test.YtfnfikmijkeimaaRDK
import Derived.Test.YtfnfikmijkeimaaRDM
namespace Go.Proofs.Ytfnfikmijkeimaa
open Go.RowKit Go.Qz
set_option linter.unusedVariables false

set_option maxRecDepth 100000 in
set_option maxHeartbeats 3200000 in
theorem modSize (p g W H x y B b : Nat) (ws : List Nat) (w : World) (h : BM w p g ws W H) (hB : 0 < B) (hx : x + B < W) (hy : y < H) (hW : W < 1000) (hH : H < 1000) (c0 : w.cell? ⟨b, 0, none⟩ = some (.int .i64 x)) (c1 : w.cell? ⟨b, 1, none⟩ = some (.int .i64 y))
    (h1 : ∀ j, j < B → mb ws W (x + j) y = true) (h2 : mb ws W (x + B) y = false) :
    Calls Try.prog 32 #[.slice (some ⟨b, 0, none⟩) 2 2, .pointer (some ⟨p, 0, none⟩)] w fun e w' => e = .returned (.tuple #[.int .i64 B, .nilIface]) ∧ w = w' := by
  have HWI := Lib.hid (bm_width p g W H ws w h)
  have HG := Lib.hid (fun (i : Nat) (hi : i < W) => bm_get (i : Int) (y : Int) i y rfl rfl p g W H ws w h hi hy (by omega) (by omega))
  have H1 := Lib.hid h1
  have H2 := Lib.hid h2
  clear h h1 h2
  go_enter Try.func32, Try.ntmps32
  go_wp2_with fail
  refine HWI.out.mono ?_
  rintro e w1 ⟨rfl, rfl⟩
  clear HWI
  go_wp2_with fail
  go_loopw [7] (fun i wr => ∃ j : Nat, j ≤ B ∧ i = .int .i64 ((x + j : Nat) : Int) ∧ w = wr) (fun i _ => x + B - (intOf i).toNat)
  case atStart => exact ⟨0, by omega, by simp, rfl⟩
  case round =>
    obtain ⟨j, hj, rfl, rfl⟩ := hrel
    obtain ⟨i, hi⟩ : ∃ i, i = x + j := ⟨_, rfl⟩
    rw [← hi]
    have q1 : (i : Int) < (W : Int) := by omega
    have HGi := HG.out i (by omega)
    by_cases hlt : j < B
    · have hm := H1.out j hlt
      rw [← hi] at hm
      rw [hm] at HGi
      have HGI := Lib.hid HGi
      have HI := Lib.hid hi
      clear HGi hm hi
      go_wp2_with fail
      refine HGI.out.mono ?_
      rintro e w2 ⟨rfl, rfl⟩
      have w1' : IntKind.i64.wrap ((i : Int) + 1) = (i : Int) + 1 := by rw [IntKind.wrap_i64]; omega
      clear HGI
      go_wp2_with fail
      go_roundw
      case rel => exact ⟨j + 1, by omega, by have := HI.out; go_num, trivial⟩
      case measure => have := HI.out; simp [intOf]; omega
    · obtain rfl : j = B := by omega
      rw [hi, H2.out, ← hi] at HGi
      have HGI := Lib.hid HGi
      have w1' : IntKind.i64.wrap ((i : Int) - (x : Int)) = (j : Int) := by rw [IntKind.wrap_i64]; omega
      have q2 : ((i : Int) == (W : Int)) = false := by simp; omega
      have q3 : ((j : Int) == 0) = false := by simp; omega
      clear HGi hi
      go_wp2_with fail
      refine HGI.out.mono ?_
      rintro e w2 ⟨rfl, rfl⟩
      clear HGI
      go_wp2_with fail
      go_ret2
      exact ⟨rfl, rfl⟩

/-- The modules of a matrix that has been made. -/
def MatPost (F : Nat → Nat → Bool) (H W : Nat) (w : World) (e : Ending) (w' : World) : Prop := ∃ p g ws, e = .returned (.tuple #[.pointer (some ⟨p, 0, none⟩), .nilIface]) ∧ Hid (BM w' p g ws W H) ∧ Hid (∀ x y, x < W → y < H → mb ws W x y = F y x) ∧ Below w.heap.size w w'
/-- What is known of the symbol and its picture. -/
structure PicOk (F : Nat → Nat → Bool) (B l0 l1 l2 l3 H W WW HH : Nat) : Prop where
  b0 : 1 ≤ B
  b1 : B ≤ 6
  w0 : 2 ≤ W
  w1 : W ≤ 144
  h0 : 1 ≤ H
  h1 : H ≤ 144
  ww : WW = l0 + B * W + l2
  hh : HH = l1 + B * H + l3
  r2 : 0 < l2
  wb : WW < 1000
  hb : HH < 1000
  f0 : F 0 0 = true
  f1 : F 0 1 = false
  f2 : F (H - 1) (W - 1) = true
section
variable {F : Nat → Nat → Bool} {B l0 l1 l2 l3 H W WW HH : Nat} {ws : List Nat}
theorem PicOk.bw (h : PicOk F B l0 l1 l2 l3 H W WW HH) : B * (W - 1) + B = B * W := by have := h.w0; rw [← Nat.mul_succ]; congr 1; omega
theorem PicOk.bh (h : PicOk F B l0 l1 l2 l3 H W WW HH) : B * (H - 1) + B = B * H := by have := h.h0; rw [← Nat.mul_succ]; congr 1; omega
theorem PicOk.first (h : PicOk F B l0 l1 l2 l3 H W WW HH) (hm : ∀ x y, x < (WW + 31) / 32 * 32 → y < HH → mb ws WW x y = (decide (x < WW) && pic F B l0 l1 H W y x)) : FirstAt ws WW l0 l1 := by
  have b0 := h.b0
  have e1 := h.bw
  have e2 := h.bh
  have e3 := h.ww
  have e4 := h.hh
  refine ⟨?_, fun x y hx hy => ?_⟩
  · rw [hm l0 l1 (by omega) (by omega), decide_eq_true (by omega), Bool.true_and]
    have := pic_in (f := F) (B := B) (l0 := l0) (l1 := l1) (H := H) (W := W) (i := 0) (t := 0) (x := l0) (by have := h.h0; omega) (by omega)
    simp only [Nat.mul_zero, Nat.add_zero] at this
    rw [this]
    have := wf_at (z := F 0) (B := B) (left := l0) (n := W) (k := 0) (t := 0) (by have := h.w0; omega) (by omega)
    simp only [Nat.mul_zero, Nat.add_zero] at this
    rw [this]; exact h.f0
  · rw [hm x y hx (by omega)]
    rcases hy with hy | ⟨rfl, hy⟩
    · rw [pic_out (.inl hy), Bool.and_false]
    · unfold pic; rw [wf_lo hy, Bool.and_false, Bool.and_false]
theorem PicOk.last (h : PicOk F B l0 l1 l2 l3 H W WW HH) (hm : ∀ x y, x < (WW + 31) / 32 * 32 → y < HH → mb ws WW x y = (decide (x < WW) && pic F B l0 l1 H W y x)) : LastAt ws WW HH (l0 + B * W - 1) (l1 + B * H - 1) := by
  have b0 := h.b0
  have e1 := h.bw
  have e2 := h.bh
  have e3 := h.ww
  have e4 := h.hh
  refine ⟨?_, fun x y hx hy0 hy => ?_⟩
  · rw [hm _ _ (by omega) (by omega), decide_eq_true (by omega), Bool.true_and]
    rw [show l1 + B * H - 1 = l1 + B * (H - 1) + (B - 1) from by omega, pic_in (by have := h.h0; omega) (by omega)]
    rw [show l0 + B * W - 1 = l0 + B * (W - 1) + (B - 1) from by omega, wf_at (by have := h.w0; omega) (by omega)]
    exact h.f2
  · rw [hm x y hx hy0]
    rcases hy with hy | ⟨rfl, hy⟩
    · rw [pic_out (.inr (by omega)), Bool.and_false]
    · unfold pic; rw [wf_hi (by omega), Bool.and_false, Bool.and_false]
theorem PicOk.at_ (h : PicOk F B l0 l1 l2 l3 H W WW HH) (hm : ∀ x y, x < (WW + 31) / 32 * 32 → y < HH → mb ws WW x y = (decide (x < WW) && pic F B l0 l1 H W y x)) {x y t u : Nat} (hx : x < W) (hy : y < H) (ht : t < B) (hu : u < B) : mb ws WW (l0 + B * x + t) (l1 + B * y + u) = F y x := by
  have e3 := h.ww
  have e4 := h.hh
  have k1 : B * (x + 1) ≤ B * W := Nat.mul_le_mul_left _ hx
  have k2 : B * (y + 1) ≤ B * H := Nat.mul_le_mul_left _ hy
  rw [Nat.mul_add, Nat.mul_one] at k1 k2
  rw [hm _ _ (by omega) (by omega), decide_eq_true (by omega), Bool.true_and, pic_in hy hu, wf_at hx ht]
end

set_option maxRecDepth 100000 in
set_option maxHeartbeats 12800000 in
theorem dmExtract (F : Nat → Nat → Bool) (B l0 l1 l2 l3 H W WW HH p g : Nat) (ws : List Nat) (w : World) (h : BM w p g ws WW HH) (hok : PicOk F B l0 l1 l2 l3 H W WW HH) (hm : ∀ x y, x < (WW + 31) / 32 * 32 → y < HH → mb ws WW x y = (decide (x < WW) && pic F B l0 l1 H W y x)) :
    Calls Try.prog 21 #[.pointer (some ⟨p, 0, none⟩)] w (MatPost F H W w) := by
  have HBM := Lib.hid h
  have HOK := Lib.hid hok
  have HM := Lib.hid hm
  have b0 := hok.b0
  have b1 := hok.b1
  have w0 := hok.w0
  have w1 := hok.w1
  have h0 := hok.h0
  have h1 := hok.h1
  have wb := hok.wb
  have hb := hok.hb
  have ebw := hok.bw
  have ebh := hok.bh
  have ww := hok.ww
  have hh := hok.hh
  have r2 := hok.r2
  obtain ⟨xr, hxr⟩ : ∃ x, x = l0 + B * W - 1 := ⟨_, rfl⟩
  obtain ⟨yb, hyb⟩ : ∃ x, x = l1 + B * H - 1 := ⟨_, rfl⟩
  have HT := Lib.hid (bm_first p g WW HH l0 l1 ws w h (by omega) (by omega) wb hb (hok.first hm))
  have HL0 := fun w2 (h2 : BM w2 p g ws WW HH) => bm_last p g WW HH xr yb ws w2 h2 (by omega) (by omega) wb hb (by rw [hxr, hyb]; exact hok.last hm)
  have HL := Lib.hid HL0
  have HMS := Lib.hid (fun (b : Nat) w2 (h2 : BM w2 p g ws WW HH) c0 c1 => modSize p g WW HH l0 l1 B b ws w2 h2 (by omega) (by have : B * 2 ≤ B * W := Nat.mul_le_mul_left _ w0; omega) (by omega) wb hb c0 c1
    (fun j hj => by have := hok.at_ hm (x := 0) (y := 0) (t := j) (u := 0) (by omega) (by omega) hj (by omega); simp only [Nat.mul_zero, Nat.add_zero] at this; rw [this]; exact hok.f0)
    (by have := hok.at_ hm (x := 1) (y := 0) (t := 0) (u := 0) (by omega) (by omega) (by omega) (by omega); simp only [Nat.mul_zero, Nat.mul_one, Nat.add_zero] at this; rw [this]; exact hok.f1))
  have f1 : IntKind.i64.wrap ((xr : Int) - (l0 : Int)) = (xr : Int) - (l0 : Int) := by rw [IntKind.wrap_i64]; omega
  have f2 : IntKind.i64.wrap ((xr : Int) - (l0 : Int) + 1) = ((B * W : Nat) : Int) := by rw [IntKind.wrap_i64]; omega
  have f3 : IntKind.i64.wrap ((yb : Int) - (l1 : Int)) = (yb : Int) - (l1 : Int) := by rw [IntKind.wrap_i64]; omega
  have f4 : IntKind.i64.wrap ((yb : Int) - (l1 : Int) + 1) = ((B * H : Nat) : Int) := by rw [IntKind.wrap_i64]; omega
  have f5 : ((B * W : Nat) : Int).tdiv (B : Int) = (W : Int) := by rw [Int.tdiv_eq_ediv_of_nonneg (by omega), ← Int.natCast_ediv, Nat.mul_div_cancel_left _ (by omega)]
  have f6 : ((B * H : Nat) : Int).tdiv (B : Int) = (H : Int) := by rw [Int.tdiv_eq_ediv_of_nonneg (by omega), ← Int.natCast_ediv, Nat.mul_div_cancel_left _ (by omega)]
  obtain ⟨BW, hBW⟩ : ∃ x, x = B * W := ⟨_, rfl⟩
  obtain ⟨BH, hBH⟩ : ∃ x, x = B * H := ⟨_, rfl⟩
  rw [← hBW] at f2 f5 ww hxr ebw
  rw [← hBH] at f4 f6 hh hyb ebh
  have f5' : (BW : Int) / (B : Int) = (W : Int) := by rw [← Int.tdiv_eq_ediv_of_nonneg (by omega)]; exact f5
  have f6' : (BH : Int) / (B : Int) = (H : Int) := by rw [← Int.tdiv_eq_ediv_of_nonneg (by omega)]; exact f6
  have f7 : IntKind.i64.wrap (W : Int) = (W : Int) := by rw [IntKind.wrap_i64]; omega
  have f8 : IntKind.i64.wrap (H : Int) = (H : Int) := by rw [IntKind.wrap_i64]; omega
  have nB : ¬ (B : Int) = 0 := by omega
  have nB2 : ¬ B = 0 := by omega
  have g1 : decide ((W : Int) ≤ 0) = false := by simp; omega
  have g2 : decide ((H : Int) ≤ 0) = false := by simp; omega
  obtain ⟨N, hN⟩ : ∃ N, N = B / 2 := ⟨_, rfl⟩
  have f9 : (B : Int).tdiv 2 = (N : Int) := by rw [Int.tdiv_eq_ediv_of_nonneg (by omega)]; omega
  have f9' : (B : Int) / 2 = (N : Int) := by omega
  have fA : IntKind.i64.wrap (N : Int) = (N : Int) := by rw [IntKind.wrap_i64]; omega
  obtain ⟨ta, hta⟩ : ∃ t, t = l1 + N := ⟨_, rfl⟩
  obtain ⟨la, hla⟩ : ∃ t, t = l0 + N := ⟨_, rfl⟩
  have fB : IntKind.i64.wrap ((l1 : Int) + (N : Int)) = (ta : Int) := by rw [IntKind.wrap_i64]; omega
  have fC : IntKind.i64.wrap ((l0 : Int) + (N : Int)) = (la : Int) := by rw [IntKind.wrap_i64]; omega
  have HTA := Lib.hid hta
  have HLA := Lib.hid hla
  have hNB : N < B := by omega
  have HBW := Lib.hid hBW
  have HBH := Lib.hid hBH
  have HWW := Lib.hid ww
  have HHH := Lib.hid hh
  have HNW := Lib.hid (fun W2 => bm_new W H (by omega) (by omega) (by omega) (by omega) W2)
  have BWb : BW < 1000 := by omega
  have BHb : BH < 1000 := by omega
  have hnil : ∀ b X, (binOp .eql 53 (.slice (some ⟨b, 0, none⟩) 2 2) (.slice none 0 0)).run Try.prog X = .ok (.bool false) X := fun b X => by rfl
  clear h hok hm HL0 hxr hyb ebw ebh ww hh hBW hBH hN hta hla
  go_enter Try.func21, Try.ntmps21
  go_wp2_with fail
  refine HT.out.mono ?_
  rintro e w2 ⟨b2, rfl, hb2, hc2, hbl2⟩
  have HBM2 := Lib.hid (HBM.out.below hbl2 HBM.out.plt HBM.out.glt)
  have HLL := Lib.hid (HL.out w2 HBM2.out)
  have HC2 := hc2
  have HB2 := Lib.hid hbl2
  clear hc2 hbl2 HT HL
  go_wp2_with fail
  refine HLL.out.mono ?_
  rintro e w3 ⟨b3, rfl, hb3, hc3, hbl3⟩
  have HBM3 := Lib.hid (HBM2.out.below hbl3 HBM2.out.plt HBM2.out.glt)
  have HB3 := Lib.hid (HB2.out.trans (hbl3.mono HB2.out.size))
  have c0 := (hbl3.cell (p := ⟨b2, 0, none⟩) HC2.out.2.2).trans HC2.out.1
  have c1 := (hbl3.cell (p := ⟨b2, 1, none⟩) HC2.out.2.2).trans HC2.out.2.1
  have d0 := hc3.out.1
  have d1 := hc3.out.2.1
  have HMM := Lib.hid (HMS.out b2 w3 HBM3.out c0 c1)
  clear hc3 hbl3 HLL HMS
  go_wp2_with fail
  refine HMM.out.mono ?_
  rintro e w4 ⟨rfl, rfl⟩
  have hneq2 : ∀ W, (binOp .neq 45 .nilIface .nilIface).run Try.prog W = .ok (.bool false) W := fun W => rfl
  clear HMM
  go_wp2_with fail
  refine (HNW.out w3).mono ?_
  rintro e w5 ⟨p5, g5, rfl, hbm5, hbl5, hp5, hg5⟩
  have HBM5 := Lib.hid hbm5
  have HB5 := Lib.hid (HB3.out.trans (hbl5.mono HB3.out.size))
  have HPG : Hid (w.heap.size ≤ p5 ∧ w.heap.size ≤ g5) := Lib.hid (by have := HB3.out.size; omega)
  have HS0 : Hid (∀ x y, x < W → y < H → mb (List.replicate ((W + 31) / 32 * H) 0) W x y = (decide (y < 0 ∨ y = 0 ∧ x < 0) && F y x)) := Lib.hid (fun x y _ _ => by rw [mb_zeros]; simp)
  clear hbm5 hbl5 HNW c0 c1 d0 d1 HC2 HBM2 HBM3 HB2 HB3 hb2 hb3 hp5 hg5
  go_wp2_with fail
  go_loopw [17] (fun i wr => ∃ (k : Nat) (ws' : List Nat), k ≤ H ∧ i = .int .i64 k ∧ Hid (BM wr p5 g5 ws' W H) ∧ Hid (Below w.heap.size w wr) ∧ Hid (∀ x y, x < W → y < H → mb ws' W x y = (decide (y < k ∨ y = k ∧ x < 0) && F y x))) (fun i _ => H - (intOf i).toNat)
  case atStart => exact ⟨0, _, by omega, rfl, HBM5, HB5, HS0⟩
  case round =>
    obtain ⟨wo, hwo⟩ : ∃ wo, wo = wr := ⟨_, rfl⟩
    rw [← hwo] at hrel ⊢
    clear hwo
    obtain ⟨k, ws1, hk, rfl, HBk, HB, HS⟩ := hrel
    clear HBM5 HB5 HS0
    by_cases hlt : k < H
    · have hk0 : (0 : Int) ≤ (k : Int) := by omega
      have hk1 : (k : Int) < (H : Int) := by omega
      have kB : B * k ≤ B * H := Nat.mul_le_mul_left _ hk
      rw [← HBH.out] at kB
      obtain ⟨m, hm⟩ : ∃ m, m = B * k := ⟨_, rfl⟩
      have e1 : (k : Int) * (B : Int) = (m : Int) := by rw [hm, Nat.mul_comm]; simp
      have e2 : IntKind.i64.wrap (m : Int) = (m : Int) := by rw [IntKind.wrap_i64]; omega
      obtain ⟨yy, hyy⟩ : ∃ yy, yy = ta + m := ⟨_, rfl⟩
      have e3 : IntKind.i64.wrap ((ta : Int) + (m : Int)) = (yy : Int) := by have := HHH.out; have := HTA.out; rw [IntKind.wrap_i64]; omega
      have hyb : yy < HH := by
        have q1 := HHH.out
        have q0 := HTA.out
        have k2 : B * (k + 1) ≤ B * H := Nat.mul_le_mul_left _ hlt
        rw [Nat.mul_add, Nat.mul_one, ← HBH.out] at k2
        omega
      have HYY : Hid (yy = l1 + B * k + N) := Lib.hid (by have := HTA.out; omega)
      clear hm hyy kB
      go_wp2_with fail
      go_loopw [19] (fun i wr => ∃ (j : Nat) (ws' : List Nat), j ≤ W ∧ i = .int .i64 j ∧ Hid (BM wr p5 g5 ws' W H) ∧ Hid (Below w.heap.size w wr) ∧ Hid (∀ x y, x < W → y < H → mb ws' W x y = (decide (y < k ∨ y = k ∧ x < j) && F y x))) (fun i _ => W - (intOf i).toNat)
      case atStart => exact ⟨0, ws1, by omega, rfl, HBk, HB, HS⟩
      case round =>
        obtain ⟨wu, hwu⟩ : ∃ wu, wu = wr := ⟨_, rfl⟩
        rw [← hwu] at hrel ⊢
        clear hwu
        obtain ⟨j, ws2, hj, rfl, HBj, HBu, HSj⟩ := hrel
        clear HBk HB HS
        by_cases hjl : j < W
        · have hj0 : (0 : Int) ≤ (j : Int) := by omega
          have hj1 : (j : Int) < (W : Int) := by omega
          have jB : B * j ≤ B * W := Nat.mul_le_mul_left _ hj
          rw [← HBW.out] at jB
          obtain ⟨m, hm⟩ : ∃ m, m = B * j := ⟨_, rfl⟩
          have e4 : (j : Int) * (B : Int) = (m : Int) := by rw [hm, Nat.mul_comm]; simp
          have e5 : IntKind.i64.wrap (m : Int) = (m : Int) := by rw [IntKind.wrap_i64]; omega
          obtain ⟨xx, hxx⟩ : ∃ xx, xx = la + m := ⟨_, rfl⟩
          have e6 : IntKind.i64.wrap ((la : Int) + (m : Int)) = (xx : Int) := by have := HWW.out; have := HLA.out; rw [IntKind.wrap_i64]; omega
          have hxb : xx < WW := by
            have q1 := HWW.out
            have q0 := HLA.out
            have k2 : B * (j + 1) ≤ B * W := Nat.mul_le_mul_left _ hjl
            rw [Nat.mul_add, Nat.mul_one, ← HBW.out] at k2
            omega
          have hgt := bm_get (xx : Int) (yy : Int) xx yy rfl rfl p g WW HH ws wu (HBM.out.below HBu.out HBM.out.plt HBM.out.glt) hxb hyb (by omega) (by omega)
          have hat := HOK.out.at_ HM.out hjl hlt (t := N) (u := N) hNB hNB
          rw [← HYY.out, show l0 + B * j + N = xx from by have := HLA.out; omega] at hat
          rw [hat] at hgt
          have HGT := Lib.hid hgt
          clear hgt hat hm hxx jB
          cases hv : F k j with
          | true =>
            have HV := Lib.hid hv
            rw [hv] at HGT
            have HST := Lib.hid (bm_set (j : Int) (k : Int) j k rfl rfl p5 g5 W H ws2 wu HBj.out hjl hlt (by omega) (by omega))
            have hlen := HBj.out.len
            have hql : k * ((W + 31) / 32) + j / 32 < ws2.length := by rw [hlen]; exact at_lt hjl hlt
            have hx := HBj.out.lt _ (nth_mem hql)
            have h2p : 2 ^ (j % 32) < 2 ^ 32 := Nat.pow_lt_pow_right (by decide) (by omega)
            have hnew : nth ws2 (k * ((W + 31) / 32) + j / 32) ||| 2 ^ (j % 32) < 4294967296 := by
              have := Nat.or_lt_two_pow (n := 32) (show nth ws2 (k * ((W + 31) / 32) + j / 32) < 2 ^ 32 by omega) h2p; omega
            have hbm2 := HBj.out.set_ (k * ((W + 31) / 32) + j / 32) (nth ws2 (k * ((W + 31) / 32) + j / 32) ||| 2 ^ (j % 32)) hnew
            have HS3 : Hid (∀ x y, x < W → y < H → mb (ws2.set (k * ((W + 31) / 32) + j / 32) (nth ws2 (k * ((W + 31) / 32) + j / 32) ||| 2 ^ (j % 32))) W x y = (decide (y < k ∨ y = k ∧ x < j + 1) && F y x)) := Lib.hid (fun x y hx hy => by
              rw [mb_set ws2 W H x y j k hlen hjl hlt hx, HSj.out x y hx hy]
              by_cases e : x = j ∧ y = k
              · obtain ⟨rfl, rfl⟩ := e
                rw [HV.out]; simp
              · have e1 : decide (x = j ∧ y = k) = false := by simpa using e
                rw [e1, Bool.or_false]
                congr 1
                rw [Bool.eq_iff_iff]; simp only [decide_eq_true_eq]; omega)
            have HB3 := Lib.hid (HBu.out.setCell (p := ⟨g5, k * ((W + 31) / 32) + j / 32, none⟩) HPG.out.2 (.int .u32 ((nth ws2 (k * ((W + 31) / 32) + j / 32) ||| 2 ^ (j % 32) : Nat) : Int)))
            have HBM2 := Lib.hid hbm2
            clear hv hbm2 hnew h2p hx hql hlen HSj HBj HBu
            go_wp2_with fail
            refine HGT.out.mono ?_
            rintro e w8 ⟨rfl, rfl⟩
            go_wp2_with fail
            refine HST.out.mono ?_
            rintro e w9 ⟨rfl, rfl⟩
            generalize (wu.setCell ⟨g5, k * ((W + 31) / 32) + j / 32, none⟩ (.int .u32 ((nth ws2 (k * ((W + 31) / 32) + j / 32) ||| 2 ^ (j % 32) : Nat) : Int))) = w9 at *
            generalize ws2.set (k * ((W + 31) / 32) + j / 32) (nth ws2 (k * ((W + 31) / 32) + j / 32) ||| 2 ^ (j % 32)) = ws9 at *
            clear HST HGT
            go_wp2_with fail
            go_roundw
            case rel => exact ⟨j + 1, ws9, by omega, by go_num, HBM2, HB3, HS3⟩
            case measure => simp [intOf]; omega
          | false =>
            rw [hv] at HGT
            have HS3 : Hid (∀ x y, x < W → y < H → mb ws2 W x y = (decide (y < k ∨ y = k ∧ x < j + 1) && F y x)) := Lib.hid (fun x y hx hy => by
              rw [HSj.out x y hx hy]
              by_cases e : x = j ∧ y = k
              · obtain ⟨rfl, rfl⟩ := e
                rw [hv]; simp
              · congr 1
                rw [Bool.eq_iff_iff]; simp only [decide_eq_true_eq]; omega)
            clear hv HSj
            go_wp2_with fail
            refine HGT.out.mono ?_
            rintro e w8 ⟨rfl, rfl⟩
            clear HGT
            go_wp2_with fail
            go_roundw
            case rel => exact ⟨j + 1, ws2, by omega, by go_num, HBj, HBu, HS3⟩
            case measure => simp [intOf]; omega
        · obtain rfl : j = W := by omega
          have HS3 : Hid (∀ x y, x < j → y < H → mb ws2 j x y = (decide (y < k + 1 ∨ y = k + 1 ∧ x < 0) && F y x)) := Lib.hid (fun x y hx hy => by
            rw [HSj.out x y hx hy]; congr 1
            rw [Bool.eq_iff_iff]; simp only [decide_eq_true_eq]; omega)
          clear HSj
          go_wp2_with fail
          go_roundw
          case rel => exact ⟨k + 1, ws2, by omega, by go_num, HBj, HBu, HS3⟩
          case measure => simp [intOf]; omega
    · obtain rfl : k = H := by omega
      have HQ : Hid (∀ x y, x < W → y < k → mb ws1 W x y = F y x) := Lib.hid (fun x y hx hy => by rw [HS.out x y hx hy]; simp [hy])
      clear HS
      go_wp2_with fail
      go_ret2
      exact ⟨p5, g5, ws1, rfl, HBk, HQ, HB.out⟩
end Go.Proofs.Ytfnfikmijkeimaa
