/-
  combins, walked: it computes the binomial cmb. No condition beyond the bounds that each theorem states.
-/
import Derived.Test.YtpgkbhlgechpmaaRV3
namespace Go.Proofs.Ytpgkbhlgechpmaa
open Go.RowKit Go.Qz Go.Qz.RV

theorem cmb_le (n : Nat) : ∀ k, cmb n k ≤ n ^ k
  | 0 => by simp [cmb]
  | k + 1 => by
    have h := cmb_le n k
    rw [cmb, Nat.pow_succ]
    exact Nat.le_trans (Nat.div_le_self _ _) (Nat.mul_le_mul h (by omega))

set_option maxRecDepth 100000 in
set_option maxHeartbeats 1600000 in
theorem combins (n r : Nat) (N R : Int) (w : World) (h1 : r ≤ n) (h2 : n ≤ 60) (h3 : r ≤ 4) (e1 : N = n) (e2 : R = r) :
    Calls Try.prog 43 #[.int .i64 N, .int .i64 R] w fun e w' => e = .returned (.int .i64 (cmb n r : Nat)) ∧ w = w' := by
  subst e1 e2
  have hc : ∀ k, k ≤ r → cmb n k ≤ 60 ^ 4 := fun k hk =>
    Nat.le_trans (cmb_le n k) (Nat.le_trans (Nat.pow_le_pow_left h2 k) (Nat.pow_le_pow_right (by omega) (by omega)))
  have hm : ∀ k, k ≤ r → cmb n k * (n - k) ≤ 60 ^ 4 * 60 := fun k hk => Nat.mul_le_mul (hc k hk) (by omega)
  go_enter Try.func43, Try.ntmps43
  by_cases hgt : (r : Int) < n - r
  all_goals
    go_wp2_with fail
    go_loop [7, 8, 9] (fun v j i => ∃ k : Nat, k ≤ r ∧ v = .int .i64 (cmb n k : Nat) ∧ j = .int .i64 ((k + 1 : Nat) : Int) ∧ i = .int .i64 ((n - k : Nat) : Int)) (fun _ _ i => (intOf i).toNat)
    case atStart => exact ⟨0, by omega, rfl, rfl, rfl⟩
    case round =>
      obtain ⟨k, hk, rfl, rfl, rfl⟩ := hrel
      by_cases hlt : k < r
      · have g1 := hc k hk
        have g2 := hm k hk
        have g3 : Hid (cmb n (k + 1) = cmb n k * (n - k) / (k + 1)) := Lib.hid rfl
        have g4 : n - k = (n - (k + 1)) + 1 := by omega
        have g5 : cmb n k * (n - k) ≤ 60 ^ 4 * 60 := hm k hk
        clear hc hm
        generalize cmb n k = x at *
        obtain ⟨q, hq⟩ : ∃ q, q = n - k := ⟨_, rfl⟩
        rw [← hq] at g2 g3 ⊢
        have hq' := Lib.hid hq
        have hp : 0 ≤ (x : Int) * q := Int.mul_nonneg (by omega) (by omega)
        have hp2 : (x : Int) * q ≤ 1000000000 := by rw [← Int.natCast_mul]; omega
        have hq1 : (n : Int) - r < q := by omega
        have hq2 : q ≤ 60 := by omega
        clear hq g4 g5 g2
        go_wp2_with fail
        go_round
        case rel =>
          refine ⟨k + 1, by omega, ?_, by go_num, ?_⟩
          · rw [g3.out]; simp
          · have := hq'.out; congr 1; omega
        case measure => have := hq'.out; simp [intOf]; omega
      · obtain rfl : k = r := by omega
        have g1 := hc k hk
        clear hc hm
        generalize hx : cmb n k = x at *
        have HX := Lib.hid hx; clear hx
        have hq1 : ((n - k : Nat) : Int) ≤ (n : Int) - k := by omega
        go_wp2_with fail
        go_loop [7, 8] (fun v j => v = .int .i64 x ∧ j = .int .i64 ((k + 1 : Nat) : Int)) (fun _ _ => 0)
        case atStart => exact ⟨rfl, rfl⟩
        case round =>
          obtain ⟨rfl, rfl⟩ := hrel
          go_wp2_with fail
          go_ret
          rw [HX.out]
          exact ⟨rfl, rfl⟩
end Go.Proofs.Ytpgkbhlgechpmaa
