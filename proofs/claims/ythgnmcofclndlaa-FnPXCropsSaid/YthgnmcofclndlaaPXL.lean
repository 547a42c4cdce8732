/-
  FnPXCrops, walked. No condition.
-/
import Derived.Test.YthgnmcofclndlaaPMD
namespace Go.Proofs.Ythgnmcofclndlaa
open Go.RowKit Go.Qz
set_option linter.unusedVariables false

set_option maxRecDepth 100000 in
set_option maxHeartbeats 6400000 in
theorem fnPXCrops (w : World) (A : Option Addr) (n c : Nat) (z : Nat → Int) (hnc : n ≤ c) (hcm : c ≤ maxLen) (hz : ∀ j, j < n → (Lit.int .u8 (z j)).wf = true) (h : Rd w A n (fun j => .int .u8 (z j))) (a0 : Int) (h0 : (Lit.int .u8 a0).wf = true) (a1 : Int) (h1 : (Lit.int .u8 a1).wf = true) (a2 : Int) (h2 : (Lit.int .u8 a2).wf = true) (a3 : Int) (h3 : (Lit.int .u8 a3).wf = true) (a4 : Int) (h4 : (Lit.int .u8 a4).wf = true) :
    Calls Try.prog 3 #[.slice A n c, .int .u8 a0, .int .u8 a1, .int .u8 a2, .int .u8 a3, .int .u8 a4] w fun e w' => e = .returned (.bool true) ∧ Below w.heap.size w w' := by
  obtain ⟨a0, rfl⟩ : ∃ z : Nat, a0 = z := ⟨a0.toNat, by have := bd_u8 h0; omega⟩
  obtain ⟨a1, rfl⟩ : ∃ z : Nat, a1 = z := ⟨a1.toNat, by have := bd_u8 h1; omega⟩
  obtain ⟨a2, rfl⟩ : ∃ z : Nat, a2 = z := ⟨a2.toNat, by have := bd_u8 h2; omega⟩
  obtain ⟨a3, rfl⟩ : ∃ z : Nat, a3 = z := ⟨a3.toNat, by have := bd_u8 h3; omega⟩
  obtain ⟨a4, rfl⟩ : ∃ z : Nat, a4 = z := ⟨a4.toNat, by have := bd_u8 h4; omega⟩
  have k0 : a0 < 256 := by have := bd_u8 h0; omega
  have k1 : a1 < 256 := by have := bd_u8 h1; omega
  have k2 : a2 < 256 := by have := bd_u8 h2; omega
  have k3 : a3 < 256 := by have := bd_u8 h3; omega
  have k4 : a4 < 256 := by have := bd_u8 h4; omega
  clear h0 h1 h2 h3 h4
  by_cases hbig : (2147483647 : Int) < n
  · go_enter Try.func3, Try.ntmps3
    go_wp2_with fail
    go_ret
    exact ⟨rfl, Below.refl _ _⟩
  have hn : n ≤ 2147483647 := by omega
  obtain ⟨z', hz'⟩ : ∃ z' : Nat → Int, z' = fun j => if j < n then z j else 0 := ⟨_, rfl⟩
  have hr' : Rd w A n (fun j => .int .u8 (z' j)) := h.congr fun j hj => by rw [hz']; simp [hj]
  have hzw : ∀ j, (Lit.int .u8 (z' j)).wf = true := fun j => by
    rw [hz']
    by_cases hj : j < n
    · simp only [hj, if_true]; exact hz j hj
    · simp only [hj, if_false]; rfl
  obtain ⟨W, hW⟩ : ∃ W, W = 1 + a0 % 60 := ⟨_, rfl⟩
  obtain ⟨H, hH⟩ : ∃ H, H = min 60 (max 1 (n / W)) := ⟨_, rfl⟩
  have hG := pxGrays A n c z' a0 W H w hn hr' hzw k0 hW hH
  obtain ⟨f, hf⟩ : ∃ f, f = gq z' n := ⟨_, rfl⟩
  have hW1 : 1 ≤ W := by omega
  have hW2 : W ≤ 60 := by omega
  have hH1 : 1 ≤ H := by omega
  have hH2 : H ≤ 60 := by omega
  obtain ⟨N, hN⟩ : ∃ N, N = W * H := ⟨_, rfl⟩
  have hNl : N ≤ 3600 := by rw [hN]; exact Nat.mul_le_mul hW2 hH2
  have hG2 : Calls Try.prog 7 #[.slice A n c, .int .u8 a0] w (fun e w' => ∃ b, e = .returned (.tuple #[.int .i64 W, .int .i64 H, .slice (some ⟨b, 0, none⟩) N N]) ∧ Hid (Rd w' (some ⟨b, 0, none⟩) N (fun j => .int .u8 (f j))) ∧ Hid (Below w.heap.size w w')) := by
    refine hG.mono ?_
    rintro e w' ⟨b, rfl, _, ha, hb⟩
    refine ⟨b, by rw [hN], Lib.hid ?_, Lib.hid hb⟩
    rw [← hN] at ha
    have hrd := ha.rd (fun j => .int .u8 (f j)) (fun j hj => by
      rw [upY_len] at hj
      rw [upY_get _ _ _ _ hj, if_pos hj, hf])
    rw [upY_len] at hrd
    exact hrd
  obtain ⟨x, hx⟩ : ∃ x, x = a1 % 64 := ⟨_, rfl⟩
  obtain ⟨y, hy⟩ : ∃ y, y = a2 % 64 := ⟨_, rfl⟩
  obtain ⟨p, hp⟩ : ∃ p, p = a3 % 64 := ⟨_, rfl⟩
  obtain ⟨q, hq⟩ : ∃ q, q = a4 % 64 := ⟨_, rfl⟩
  obtain ⟨a, ha⟩ : ∃ a, a = 1 + p := ⟨_, rfl⟩
  obtain ⟨b, hb⟩ : ∃ b, b = 1 + q := ⟨_, rfl⟩
  have x1 : x < 64 := by omega
  have y1 : y < 64 := by omega
  have p1 : p < 64 := by omega
  have q1 : q < 64 := by omega
  have b1 : 1 ≤ a := by omega
  have b2 : a ≤ 64 := by omega
  have b3 : 1 ≤ b := by omega
  have b4 : b ≤ 64 := by omega
  have ex : (a1 : Int) % 64 = (x : Int) := by omega
  have ex2 : (a1 : Int).tmod 64 = (x : Int) := by rw [Int.tmod_eq_emod_of_nonneg (by omega)]; exact ex
  have ey : (a2 : Int) % 64 = (y : Int) := by omega
  have ey2 : (a2 : Int).tmod 64 = (y : Int) := by rw [Int.tmod_eq_emod_of_nonneg (by omega)]; exact ey
  have ep : (a3 : Int) % 64 = (p : Int) := by omega
  have ep2 : (a3 : Int).tmod 64 = (p : Int) := by rw [Int.tmod_eq_emod_of_nonneg (by omega)]; exact ep
  have eq : (a4 : Int) % 64 = (q : Int) := by omega
  have eq2 : (a4 : Int).tmod 64 = (q : Int) := by rw [Int.tmod_eq_emod_of_nonneg (by omega)]; exact eq
  have ea : (1 : Int) + (p : Int) = (a : Int) := by omega
  have eb : (1 : Int) + (q : Int) = (b : Int) := by omega
  have HG := Lib.hid hG2
  have HN := Lib.hid hN
  clear hG hG2 hx hy hp hq ha hb hN hW hH hf hz' hr' hzw hz h
  by_cases hin : x + a ≤ W ∧ y + b ≤ H
  · obtain ⟨hi1, hi2⟩ := hin
    have t1 : ((W : Int) < (x : Int) + (a : Int)) = False := by simp; omega
    have t2 : ((H : Int) < (y : Int) + (b : Int)) = False := by simp; omega
    have HI1 := Lib.hid hi1
    have HI2 := Lib.hid hi2
    obtain ⟨m, hm⟩ : ∃ m, m = a * b := ⟨_, rfl⟩
    have hml : m ≤ 4096 := by rw [hm]; exact Nat.mul_le_mul b2 b4
    have hm1 : 1 ≤ m := by rw [hm]; exact Nat.mul_pos b1 b3
    have HM := Lib.hid hm
    clear hi1 hi2 hm
    go_enter Try.func3, Try.ntmps3
    go_wp2_with fail
    refine HG.out.mono ?_
    rintro e w1 ⟨g, rfl, HR, HB⟩
    have HC := Lib.hid (grayCrop_ok W H N (some ⟨g, 0, none⟩) N x y a b f hW1 hH1 hW2 hH2 HN.out b1 b3 HI1.out HI2.out w1 HR.out)
    go_wp2_with fail
    refine HC.out.mono ?_
    rintro e w2 ⟨A2, c2, rfl, HR2, hb2⟩
    have HR3 : Hid (Rd w2 (some ⟨g, 0, none⟩) N (fun j => .int .u8 (f j))) := Lib.hid (HR.out.below hb2)
    have HB2 := Lib.hid (HB.out.trans (hb2.mono HB.out.size))
    have HP := Lib.hid (pxPart (some ⟨g, 0, none⟩) N N W H x y a b f HN.out hNl (Nat.le_refl _) (by unfold maxLen; omega) hW1 b1 HI1.out HI2.out hH2 hW2 w2 HR3.out)
    rw [← HM.out] at HR2 HP ⊢
    clear hb2 HC
    go_wp2_with fail
    refine HP.out.mono ?_
    rintro e w3 ⟨v, rfl, hown, hb3⟩
    obtain ⟨A3, c3, rfl, _, _, hrd⟩ := Rd.of_own hown
    have HR4 : Hid (Rd w3 A3 m (fun j => .int .u8 (prI f W x y a b j))) := Lib.hid (hrd.congr fun j hj => prI_eq f W x y a b j (by rw [← HM.out]; exact hj))
    have HR5 : Hid (Rd w3 A2 m (fun j => .int .u8 (prI f W x y a b j))) := Lib.hid (HR2.out.below hb3)
    have HB3 := Lib.hid (HB2.out.trans (hb3.mono HB2.out.size))
    clear hown hb3 hrd
    go_wp2_with fail
    refine (pxSame A2 A3 m c2 c3 _ _ w3 hm1 HR5.out HR4.out (fun _ _ => rfl)).mono ?_
    rintro e w4 ⟨rfl, rfl⟩
    go_wp2_with fail
    go_ret
    exact ⟨rfl, HB3.out⟩
  · have hne : W < x + a ∨ H < y + b := by omega
    have HNE := Lib.hid hne
    by_cases hc : W < x + a
    · have t1 : (W : Int) < (x : Int) + (a : Int) := by omega
      clear hin hne hc
      go_enter Try.func3, Try.ntmps3
      go_wp2_with fail
      refine HG.out.mono ?_
      rintro e w1 ⟨g, rfl, HR, HB⟩
      have HC := Lib.hid (grayCrop_not W H N (some ⟨g, 0, none⟩) N x y a b f hW1 hH1 hW2 hH2 HN.out b1 b3 (by omega) (by omega) b2 b4 HNE.out w1 HR.out)
      go_wp2_with fail
      refine HC.out.mono ?_
      rintro e w2 ⟨rfl, hb2⟩
      have HB2 := Lib.hid (HB.out.trans (hb2.mono HB.out.size))
      clear hb2 HC
      go_wp2_with fail
      go_ret
      exact ⟨rfl, HB2.out⟩
    · have t1 : ((W : Int) < (x : Int) + (a : Int)) = False := by simp; omega
      have t2 : (H : Int) < (y : Int) + (b : Int) := by omega
      clear hin hne hc
      go_enter Try.func3, Try.ntmps3
      go_wp2_with fail
      refine HG.out.mono ?_
      rintro e w1 ⟨g, rfl, HR, HB⟩
      have HC := Lib.hid (grayCrop_not W H N (some ⟨g, 0, none⟩) N x y a b f hW1 hH1 hW2 hH2 HN.out b1 b3 (by omega) (by omega) b2 b4 HNE.out w1 HR.out)
      go_wp2_with fail
      refine HC.out.mono ?_
      rintro e w2 ⟨rfl, hb2⟩
      have HB2 := Lib.hid (HB.out.trans (hb2.mono HB.out.size))
      clear hb2 HC
      go_wp2_with fail
      go_ret
      exact ⟨rfl, HB2.out⟩
end Go.Proofs.Ythgnmcofclndlaa
