/-
  thresholdBlock, walked. No condition beyond the bounds that the theorem states.
-/
import Derived.Test.YthgnmcofclndlaaPYH
namespace Go.Proofs.Ythgnmcofclndlaa
open Go.RowKit Go.Qz
set_option linter.unusedVariables false

/-- What a square of eight by eight has laid so far: k rows, and j of the next. -/
def cov (xo yo k j x y : Nat) : Prop := (yo ≤ y ∧ y < yo + k ∧ xo ≤ x ∧ x < xo + 8) ∨ (y = yo + k ∧ xo ≤ x ∧ x < xo + j)
instance (xo yo k j x y : Nat) : Decidable (cov xo yo k j x y) := by unfold cov; infer_instance
def Laid (ws ws' : List Nat) (Z : Nat → Nat → Bool) (W H xo yo k j : Nat) : Prop := ∀ x y, x < W → y < H → mb ws' W x y = (mb ws W x y || (decide (cov xo yo k j x y) && Z y x))
def ThrPost (Z : Nat → Nat → Bool) (W H xo yo pm gm : Nat) (ws : List Nat) (w : World) (e : Ending) (w' : World) : Prop := e = .returned (.tuple #[]) ∧ ∃ ws', Hid (BM w' pm gm ws' W H) ∧ Hid (Laid ws ws' Z W H xo yo 8 0) ∧ Hid (Mod (· = gm) w w')

set_option maxRecDepth 100000 in
set_option maxHeartbeats 6400000 in
theorem thrBlock (v : Value) (Z : Nat → Nat → Bool) (W H N d l thr xo yo c pm gm : Nat) (ws : List Nat) (hW : W ≤ 200) (hH : H ≤ 200) (hdl : TwoOk d l) (hN : N = W * H) (hx : xo + 8 ≤ W) (hy : yo + 8 ≤ H) (ht1 : d ≤ thr) (ht2 : thr < l) (A : Option Addr) (w : World)
    (hb : BM w pm gm ws W H) (hr : Rd w A N (fun j => .int .u8 ((gr Z W d l j : Nat) : Int))) (hA : ∀ a, A = some a → a.block ≠ gm) :
    Calls Try.prog 84 #[v, .slice A N c, .int .i64 xo, .int .i64 yo, .int .i64 thr, .int .i64 W, .pointer (some ⟨pm, 0, none⟩)] w (ThrPost Z W H xo yo pm gm ws w) := by
  have HB := Lib.hid hb
  have HR := Lib.hid hr
  have HA := Lib.hid hA
  have HDL := Lib.hid hdl
  have HNN := Lib.hid hN
  have hyW : yo * W ≤ 200 * 200 := Nat.mul_le_mul (by omega) hW
  obtain ⟨m, hm⟩ : ∃ m, m = yo * W := ⟨_, rfl⟩
  rw [← hm] at hyW
  have e1 : (yo : Int) * (W : Int) = (m : Int) := by rw [hm]; simp
  have e2 : IntKind.i64.wrap (m : Int) = (m : Int) := by rw [IntKind.wrap_i64]; omega
  obtain ⟨o0, ho0⟩ : ∃ o, o = m + xo := ⟨_, rfl⟩
  have e3 : IntKind.i64.wrap ((m : Int) + (xo : Int)) = (o0 : Int) := by rw [IntKind.wrap_i64]; omega
  have HO0 : Hid (o0 = (yo + 0) * W + xo) := Lib.hid (by rw [Nat.add_zero, ho0, hm])
  have HL0 : Hid (Laid ws ws Z W H xo yo 0 0) := Lib.hid (fun x y _ _ => by rw [decide_eq_false (by unfold cov; omega)]; simp)
  clear hb hr hA hdl hN hm ho0
  go_enter Try.func84, Try.ntmps84
  go_wp2_with fail
  clear e1 e2 e3 hyW
  go_loopw [14, 15] (fun i o wr => ∃ (k q : Nat) (ws' : List Nat), k ≤ 8 ∧ i = .int .i64 k ∧ o = .int .i64 q ∧ Hid (q = (yo + k) * W + xo) ∧ Hid (BM wr pm gm ws' W H) ∧ Hid (Laid ws ws' Z W H xo yo k 0) ∧ Hid (Mod (· = gm) w wr)) (fun i _ _ => 8 - (intOf i).toNat)
  case atStart => exact ⟨0, o0, ws, by omega, rfl, by first | rfl | (congr 1; omega), HO0, HB, HL0, Lib.hid (Mod.refl _)⟩
  case round =>
    obtain ⟨wo, hwo⟩ : ∃ wo, wo = wr := ⟨_, rfl⟩
    rw [← hwo] at hrel ⊢
    clear hwo HO0 HL0
    obtain ⟨k, q, ws1, hk, rfl, rfl, HQ, HBk, HLk, HM⟩ := hrel
    by_cases hlt : k < 8
    · have hki : (k : Int) < 8 := by omega
      have hqb : q ≤ 40400 := by
        have h1 : (yo + k) * W ≤ 200 * 200 := Nat.mul_le_mul (by omega) hW
        have := HQ.out; omega
      go_wp2_with fail
      go_loopw [16] (fun i wr => ∃ (j : Nat) (ws' : List Nat), j ≤ 8 ∧ i = .int .i64 j ∧ Hid (BM wr pm gm ws' W H) ∧ Hid (Laid ws ws' Z W H xo yo k j) ∧ Hid (Mod (· = gm) w wr)) (fun i _ => 8 - (intOf i).toNat)
      case atStart => exact ⟨0, ws1, by omega, rfl, HBk, HLk, HM⟩
      case round =>
        obtain ⟨wu, hwu⟩ : ∃ wu, wu = wr := ⟨_, rfl⟩
        rw [← hwu] at hrel ⊢
        clear hwu HBk HLk HM
        obtain ⟨j, ws2, hj, rfl, HBj, HLj, HMj⟩ := hrel
        by_cases hjl : j < 8
        · have hji : (j : Int) < 8 := by omega
          obtain ⟨X, hX⟩ : ∃ X, X = xo + j := ⟨_, rfl⟩
          obtain ⟨Y, hY⟩ : ∃ Y, Y = yo + k := ⟨_, rfl⟩
          have HQ' := HQ.out
          rw [← hY] at HQ'
          obtain ⟨ix, hix⟩ : ∃ ix, ix = q + j := ⟨_, rfl⟩
          have hixe : ix = Y * W + X := by omega
          have hYH : Y < H := by omega
          have hXW : X < W := by omega
          have hixN : ix < N := by
            have h1 : (Y + 1) * W ≤ H * W := Nat.mul_le_mul_right _ hYH
            rw [Nat.add_mul, Nat.one_mul, Nat.mul_comm H W, ← HNN.out] at h1
            omega
          have e3 : IntKind.i64.wrap ((q : Int) + (j : Int)) = (ix : Int) := by rw [IntKind.wrap_i64]; omega
          have eX : IntKind.i64.wrap ((xo : Int) + (j : Int)) = (X : Int) := by rw [IntKind.wrap_i64]; omega
          have eY : IntKind.i64.wrap ((yo : Int) + (k : Int)) = (Y : Int) := by rw [IntKind.wrap_i64]; omega
          have hix0 : (0 : Int) ≤ (ix : Int) := by omega
          have hix1 : (ix : Int) < (N : Int) := by omega
          obtain ⟨ab, ao, hAe, hab, hac⟩ := HR.out (by omega)
          have hg := gr_at (Z := Z) (W := W) (d := d) (l := l) (y := Y) (x := X) hXW
          rw [← hixe] at hg
          have cx := (World.cell?_of_block (w := w) (a := ⟨ab, ao + ix, none⟩) (HMj.out.block ab hab (HA.out _ hAe))).trans (hac ix hixN)
          dsimp only at cx
          rw [hg] at cx
          have h256 : (if Z Y X then d else l) < 256 := by have := HDL.out.1; have := HDL.out.2; split <;> omega
          obtain ⟨u, hu⟩ : ∃ u, u = (if Z Y X then d else l) := ⟨_, rfl⟩
          rw [← hu] at cx h256
          have ea := u8_and_255 u h256
          have hvb : Z Y X = decide (u ≤ thr) := by
            rw [hu]
            cases Z Y X <;> simp <;> omega
          have HXY : Hid (X = xo + j ∧ Y = yo + k) := Lib.hid ⟨hX, hY⟩
          subst hAe
          cases hz : Z Y X with
          | true =>
            have HV := Lib.hid hz
            have hvl : u ≤ thr := by rw [hz] at hvb; simpa using hvb.symm
            have q5 : decide ((u : Int) ≤ (thr : Int)) = true := by simp; omega
            have q6 : decide (u ≤ thr) = true := by simp; omega
            have HST := Lib.hid (bm_set (X : Int) (Y : Int) X Y rfl rfl pm gm W H ws2 wu HBj.out hXW hYH (by omega) (by omega))
            have hlen := HBj.out.len
            have hql : Y * ((W + 31) / 32) + X / 32 < ws2.length := by rw [hlen]; exact at_lt hXW hYH
            have hx' := HBj.out.lt _ (nth_mem hql)
            have h2p : 2 ^ (X % 32) < 2 ^ 32 := Nat.pow_lt_pow_right (by decide) (by omega)
            have hnew : nth ws2 (Y * ((W + 31) / 32) + X / 32) ||| 2 ^ (X % 32) < 4294967296 := by
              have := Nat.or_lt_two_pow (n := 32) (show nth ws2 (Y * ((W + 31) / 32) + X / 32) < 2 ^ 32 by omega) h2p; omega
            have hbm2 := HBj.out.set_ (Y * ((W + 31) / 32) + X / 32) (nth ws2 (Y * ((W + 31) / 32) + X / 32) ||| 2 ^ (X % 32)) hnew
            have HL3 : Hid (Laid ws (ws2.set (Y * ((W + 31) / 32) + X / 32) (nth ws2 (Y * ((W + 31) / 32) + X / 32) ||| 2 ^ (X % 32))) Z W H xo yo k (j + 1)) := Lib.hid (fun x y hx hy => by
              rw [mb_set ws2 W H x y X Y hlen hXW hYH hx, HLj.out x y hx hy]
              by_cases e : x = X ∧ y = Y
              · obtain ⟨rfl, rfl⟩ := e
                rw [HV.out, decide_eq_true (show cov xo yo k (j + 1) x y from .inr ⟨by omega, by omega, by omega⟩)]
                simp
              · rw [decide_eq_false e, Bool.or_false]
                congr 2
                rw [Bool.eq_iff_iff]; simp only [decide_eq_true_eq]; unfold cov; omega)
            have HM3 : Hid (Mod (· = gm) w (wu.setCell ⟨gm, Y * ((W + 31) / 32) + X / 32, none⟩ (.int .u32 ((nth ws2 (Y * ((W + 31) / 32) + X / 32) ||| 2 ^ (X % 32) : Nat) : Int)))) := Lib.hid (HMj.out.trans (Mod.set1 wu gm _ _))
            have HBM3 := Lib.hid hbm2
            clear hz hbm2 hnew h2p hx' hql hlen HLj HBj HMj hu hvb hac hg hvl hix hixe HQ' hX hY
            go_wp2_with fail
            refine HST.out.mono ?_
            rintro e w9 ⟨rfl, rfl⟩
            generalize (wu.setCell ⟨gm, Y * ((W + 31) / 32) + X / 32, none⟩ (.int .u32 ((nth ws2 (Y * ((W + 31) / 32) + X / 32) ||| 2 ^ (X % 32) : Nat) : Int))) = w9 at *
            generalize ws2.set (Y * ((W + 31) / 32) + X / 32) (nth ws2 (Y * ((W + 31) / 32) + X / 32) ||| 2 ^ (X % 32)) = ws9 at *
            clear HST cx
            go_wp2_with fail
            go_roundw
            case rel => exact ⟨j + 1, ws9, by omega, by go_num, HBM3, HL3, HM3⟩
            case measure => simp [intOf]; omega
          | false =>
            have hvl : ¬ u ≤ thr := by rw [hz] at hvb; simpa using hvb.symm
            have q5 : decide ((u : Int) ≤ (thr : Int)) = false := by simp; omega
            have q6 : decide (u ≤ thr) = false := by simp; omega
            have HL3 : Hid (Laid ws ws2 Z W H xo yo k (j + 1)) := Lib.hid (fun x y hx hy => by
              rw [HLj.out x y hx hy]
              by_cases e : x = X ∧ y = Y
              · obtain ⟨rfl, rfl⟩ := e
                rw [hz]; simp
              · congr 2
                rw [Bool.eq_iff_iff]; simp only [decide_eq_true_eq]; unfold cov; omega)
            clear hz HLj hu hvb hac hg hvl hix hixe HQ' hX hY
            go_wp2_with fail
            go_roundw
            case rel => exact ⟨j + 1, ws2, by omega, by go_num, HBj, HL3, HMj⟩
            case measure => simp [intOf]; omega
        · obtain rfl : j = 8 := by omega
          have HL3 : Hid (Laid ws ws2 Z W H xo yo (k + 1) 0) := Lib.hid (fun x y hx hy => by
            rw [HLj.out x y hx hy]; congr 2
            rw [Bool.eq_iff_iff]; simp only [decide_eq_true_eq]; unfold cov; omega)
          obtain ⟨q2, hq2⟩ : ∃ q2, q2 = q + W := ⟨_, rfl⟩
          have e5 : IntKind.i64.wrap ((q : Int) + (W : Int)) = (q2 : Int) := by rw [IntKind.wrap_i64]; omega
          have HQ2 : Hid (q2 = (yo + (k + 1)) * W + xo) := Lib.hid (by rw [← Nat.add_assoc, Nat.add_mul, Nat.one_mul]; have := HQ.out; omega)
          clear HLj hq2
          go_wp2_with fail
          go_roundw
          case rel => exact ⟨k + 1, q2, ws2, by omega, by go_num, by first | rfl | (congr 1; omega), HQ2, HBj, HL3, HMj⟩
          case measure => simp [intOf]; omega
    · obtain rfl : k = 8 := by omega
      go_wp2_with fail
      go_end0
      exact ⟨rfl, ws1, HBk, HLk, HM⟩
end Go.Proofs.Ythgnmcofclndlaa
