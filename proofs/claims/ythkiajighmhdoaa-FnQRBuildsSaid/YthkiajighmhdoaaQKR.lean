/-
  qrRest, QRVersionBits, QRFormatBits, walked. No condition beyond the bounds that each theorem states.
-/
import Derived.Test.YthkiajighmhdoaaQOC
import Derived.Test.YthkiajighmhdoaaQKB
import Derived.Deep.DeepCutAuto
namespace Go.Proofs.Ythkiajighmhdoaa
open Go.RowKit Go.Qz Go.Qz.PC Go.Qz.QB
set_option linter.unusedVariables false

theorem i64_and1 (x : Nat) (hx : x < 1000000) : bits .and .i64 (x : Int) 1 = ((x % 2 : Nat) : Int) := by
  have := i64_and x 1 (by omega) (by omega)
  rw [Nat.and_one_is_mod] at this
  exact this

set_option maxRecDepth 100000 in
set_option maxHeartbeats 3200000 in
theorem qrRest13 (x : Nat) (hx : x < 262144) (w : World) :
    Calls Try.prog 105 #[.int .i64 x, .int .i64 7973, .int .i64 13] w fun e w' => e = .returned (.int .i64 (rrest 7973 13 6 x : Nat)) ∧ w = w' := by
  have h00 : Hid (rrest 7973 13 0 x = x) := Lib.hid rfl
  go_enter Try.func105, Try.ntmps105
  go_wp2_with fail
  go_loop [0, 7] (fun u i => ∃ k i' X : Nat, k ≤ 6 ∧ i' + k = 17 ∧ i = .int .i64 i' ∧ u = .int .i64 X ∧ X < 262144 ∧ Hid (rrest 7973 13 k x = X)) (fun _ i => (intOf i).toNat)
  case atStart => exact ⟨0, 17, x, by omega, by omega, rfl, rfl, hx, h00⟩
  case round =>
    obtain ⟨k, i', X, hk, hi, rfl, rfl, hX, HX⟩ := hrel
    clear h00 hx
    have hkk : k = 0 ∨ k = 1 ∨ k = 2 ∨ k = 3 ∨ k = 4 ∨ k = 5 ∨ k = 6 := by omega
    rcases hkk with rfl | rfl | rfl | rfl | rfl | rfl | rfl
    · obtain rfl : i' = 17 := by omega
      obtain ⟨q, hq⟩ : ∃ q, q = X / 131072 := ⟨_, rfl⟩
      have eq : (X : Int) / 131072 = (q : Int) := by omega
      have hand := i64_and1 q (by omega)
      obtain ⟨m, hm⟩ : ∃ m, m = q % 2 := ⟨_, rfl⟩
      rw [← hm] at hand
      by_cases h1 : m = 1
      · have hxor : bits .xor .i64 (X : Int) 255136 = ((X ^^^ 255136 : Nat) : Int) := i64_xor X 255136 (by omega) (by omega)
        have hY : X ^^^ 255136 < 262144 := Nat.xor_lt_two_pow (n := 18) hX (by omega)
        have HN : Hid (rrest 7973 13 (0 + 1) x = X ^^^ 255136) := Lib.hid (by
          show rstep 7973 13 17 (rrest 7973 13 0 x) = _
          rw [HX.out]; unfold rstep; rw [if_pos (by rw [show (2 : Nat) ^ 17 = 131072 from rfl, ← hq, ← hm]; exact h1)])
        generalize X ^^^ 255136 = Y at *
        subst h1
        clear hq hm HX
        go_wp2_with fail
        go_round
        case rel => exact ⟨0 + 1, 16, Y, by omega, by omega, rfl, rfl, hY, HN⟩
        case measure => simp [intOf]
      · have h0 : m = 0 := by omega
        have HN : Hid (rrest 7973 13 (0 + 1) x = X) := Lib.hid (by
          show rstep 7973 13 17 (rrest 7973 13 0 x) = _
          rw [HX.out]; unfold rstep; rw [if_neg (by rw [show (2 : Nat) ^ 17 = 131072 from rfl, ← hq, ← hm]; exact h1)])
        subst h0
        clear hq hm HX h1
        go_wp2_with fail
        go_round
        case rel => exact ⟨0 + 1, 16, X, by omega, by omega, rfl, rfl, hX, HN⟩
        case measure => simp [intOf]
    · obtain rfl : i' = 16 := by omega
      obtain ⟨q, hq⟩ : ∃ q, q = X / 65536 := ⟨_, rfl⟩
      have eq : (X : Int) / 65536 = (q : Int) := by omega
      have hand := i64_and1 q (by omega)
      obtain ⟨m, hm⟩ : ∃ m, m = q % 2 := ⟨_, rfl⟩
      rw [← hm] at hand
      by_cases h1 : m = 1
      · have hxor : bits .xor .i64 (X : Int) 127568 = ((X ^^^ 127568 : Nat) : Int) := i64_xor X 127568 (by omega) (by omega)
        have hY : X ^^^ 127568 < 262144 := Nat.xor_lt_two_pow (n := 18) hX (by omega)
        have HN : Hid (rrest 7973 13 (1 + 1) x = X ^^^ 127568) := Lib.hid (by
          show rstep 7973 13 16 (rrest 7973 13 1 x) = _
          rw [HX.out]; unfold rstep; rw [if_pos (by rw [show (2 : Nat) ^ 16 = 65536 from rfl, ← hq, ← hm]; exact h1)])
        generalize X ^^^ 127568 = Y at *
        subst h1
        clear hq hm HX
        go_wp2_with fail
        go_round
        case rel => exact ⟨1 + 1, 15, Y, by omega, by omega, rfl, rfl, hY, HN⟩
        case measure => simp [intOf]
      · have h0 : m = 0 := by omega
        have HN : Hid (rrest 7973 13 (1 + 1) x = X) := Lib.hid (by
          show rstep 7973 13 16 (rrest 7973 13 1 x) = _
          rw [HX.out]; unfold rstep; rw [if_neg (by rw [show (2 : Nat) ^ 16 = 65536 from rfl, ← hq, ← hm]; exact h1)])
        subst h0
        clear hq hm HX h1
        go_wp2_with fail
        go_round
        case rel => exact ⟨1 + 1, 15, X, by omega, by omega, rfl, rfl, hX, HN⟩
        case measure => simp [intOf]
    · obtain rfl : i' = 15 := by omega
      obtain ⟨q, hq⟩ : ∃ q, q = X / 32768 := ⟨_, rfl⟩
      have eq : (X : Int) / 32768 = (q : Int) := by omega
      have hand := i64_and1 q (by omega)
      obtain ⟨m, hm⟩ : ∃ m, m = q % 2 := ⟨_, rfl⟩
      rw [← hm] at hand
      by_cases h1 : m = 1
      · have hxor : bits .xor .i64 (X : Int) 63784 = ((X ^^^ 63784 : Nat) : Int) := i64_xor X 63784 (by omega) (by omega)
        have hY : X ^^^ 63784 < 262144 := Nat.xor_lt_two_pow (n := 18) hX (by omega)
        have HN : Hid (rrest 7973 13 (2 + 1) x = X ^^^ 63784) := Lib.hid (by
          show rstep 7973 13 15 (rrest 7973 13 2 x) = _
          rw [HX.out]; unfold rstep; rw [if_pos (by rw [show (2 : Nat) ^ 15 = 32768 from rfl, ← hq, ← hm]; exact h1)])
        generalize X ^^^ 63784 = Y at *
        subst h1
        clear hq hm HX
        go_wp2_with fail
        go_round
        case rel => exact ⟨2 + 1, 14, Y, by omega, by omega, rfl, rfl, hY, HN⟩
        case measure => simp [intOf]
      · have h0 : m = 0 := by omega
        have HN : Hid (rrest 7973 13 (2 + 1) x = X) := Lib.hid (by
          show rstep 7973 13 15 (rrest 7973 13 2 x) = _
          rw [HX.out]; unfold rstep; rw [if_neg (by rw [show (2 : Nat) ^ 15 = 32768 from rfl, ← hq, ← hm]; exact h1)])
        subst h0
        clear hq hm HX h1
        go_wp2_with fail
        go_round
        case rel => exact ⟨2 + 1, 14, X, by omega, by omega, rfl, rfl, hX, HN⟩
        case measure => simp [intOf]
    · obtain rfl : i' = 14 := by omega
      obtain ⟨q, hq⟩ : ∃ q, q = X / 16384 := ⟨_, rfl⟩
      have eq : (X : Int) / 16384 = (q : Int) := by omega
      have hand := i64_and1 q (by omega)
      obtain ⟨m, hm⟩ : ∃ m, m = q % 2 := ⟨_, rfl⟩
      rw [← hm] at hand
      by_cases h1 : m = 1
      · have hxor : bits .xor .i64 (X : Int) 31892 = ((X ^^^ 31892 : Nat) : Int) := i64_xor X 31892 (by omega) (by omega)
        have hY : X ^^^ 31892 < 262144 := Nat.xor_lt_two_pow (n := 18) hX (by omega)
        have HN : Hid (rrest 7973 13 (3 + 1) x = X ^^^ 31892) := Lib.hid (by
          show rstep 7973 13 14 (rrest 7973 13 3 x) = _
          rw [HX.out]; unfold rstep; rw [if_pos (by rw [show (2 : Nat) ^ 14 = 16384 from rfl, ← hq, ← hm]; exact h1)])
        generalize X ^^^ 31892 = Y at *
        subst h1
        clear hq hm HX
        go_wp2_with fail
        go_round
        case rel => exact ⟨3 + 1, 13, Y, by omega, by omega, rfl, rfl, hY, HN⟩
        case measure => simp [intOf]
      · have h0 : m = 0 := by omega
        have HN : Hid (rrest 7973 13 (3 + 1) x = X) := Lib.hid (by
          show rstep 7973 13 14 (rrest 7973 13 3 x) = _
          rw [HX.out]; unfold rstep; rw [if_neg (by rw [show (2 : Nat) ^ 14 = 16384 from rfl, ← hq, ← hm]; exact h1)])
        subst h0
        clear hq hm HX h1
        go_wp2_with fail
        go_round
        case rel => exact ⟨3 + 1, 13, X, by omega, by omega, rfl, rfl, hX, HN⟩
        case measure => simp [intOf]
    · obtain rfl : i' = 13 := by omega
      obtain ⟨q, hq⟩ : ∃ q, q = X / 8192 := ⟨_, rfl⟩
      have eq : (X : Int) / 8192 = (q : Int) := by omega
      have hand := i64_and1 q (by omega)
      obtain ⟨m, hm⟩ : ∃ m, m = q % 2 := ⟨_, rfl⟩
      rw [← hm] at hand
      by_cases h1 : m = 1
      · have hxor : bits .xor .i64 (X : Int) 15946 = ((X ^^^ 15946 : Nat) : Int) := i64_xor X 15946 (by omega) (by omega)
        have hY : X ^^^ 15946 < 262144 := Nat.xor_lt_two_pow (n := 18) hX (by omega)
        have HN : Hid (rrest 7973 13 (4 + 1) x = X ^^^ 15946) := Lib.hid (by
          show rstep 7973 13 13 (rrest 7973 13 4 x) = _
          rw [HX.out]; unfold rstep; rw [if_pos (by rw [show (2 : Nat) ^ 13 = 8192 from rfl, ← hq, ← hm]; exact h1)])
        generalize X ^^^ 15946 = Y at *
        subst h1
        clear hq hm HX
        go_wp2_with fail
        go_round
        case rel => exact ⟨4 + 1, 12, Y, by omega, by omega, rfl, rfl, hY, HN⟩
        case measure => simp [intOf]
      · have h0 : m = 0 := by omega
        have HN : Hid (rrest 7973 13 (4 + 1) x = X) := Lib.hid (by
          show rstep 7973 13 13 (rrest 7973 13 4 x) = _
          rw [HX.out]; unfold rstep; rw [if_neg (by rw [show (2 : Nat) ^ 13 = 8192 from rfl, ← hq, ← hm]; exact h1)])
        subst h0
        clear hq hm HX h1
        go_wp2_with fail
        go_round
        case rel => exact ⟨4 + 1, 12, X, by omega, by omega, rfl, rfl, hX, HN⟩
        case measure => simp [intOf]
    · obtain rfl : i' = 12 := by omega
      obtain ⟨q, hq⟩ : ∃ q, q = X / 4096 := ⟨_, rfl⟩
      have eq : (X : Int) / 4096 = (q : Int) := by omega
      have hand := i64_and1 q (by omega)
      obtain ⟨m, hm⟩ : ∃ m, m = q % 2 := ⟨_, rfl⟩
      rw [← hm] at hand
      by_cases h1 : m = 1
      · have hxor : bits .xor .i64 (X : Int) 7973 = ((X ^^^ 7973 : Nat) : Int) := i64_xor X 7973 (by omega) (by omega)
        have hY : X ^^^ 7973 < 262144 := Nat.xor_lt_two_pow (n := 18) hX (by omega)
        have HN : Hid (rrest 7973 13 (5 + 1) x = X ^^^ 7973) := Lib.hid (by
          show rstep 7973 13 12 (rrest 7973 13 5 x) = _
          rw [HX.out]; unfold rstep; rw [if_pos (by rw [show (2 : Nat) ^ 12 = 4096 from rfl, ← hq, ← hm]; exact h1)])
        generalize X ^^^ 7973 = Y at *
        subst h1
        clear hq hm HX
        go_wp2_with fail
        go_round
        case rel => exact ⟨5 + 1, 11, Y, by omega, by omega, rfl, rfl, hY, HN⟩
        case measure => simp [intOf]
      · have h0 : m = 0 := by omega
        have HN : Hid (rrest 7973 13 (5 + 1) x = X) := Lib.hid (by
          show rstep 7973 13 12 (rrest 7973 13 5 x) = _
          rw [HX.out]; unfold rstep; rw [if_neg (by rw [show (2 : Nat) ^ 12 = 4096 from rfl, ← hq, ← hm]; exact h1)])
        subst h0
        clear hq hm HX h1
        go_wp2_with fail
        go_round
        case rel => exact ⟨5 + 1, 11, X, by omega, by omega, rfl, rfl, hX, HN⟩
        case measure => simp [intOf]
    · obtain rfl : i' = 11 := by omega
      go_wp2_with fail
      go_ret
      exact ⟨by rw [HX.out]; rfl, rfl⟩

set_option maxRecDepth 100000 in
set_option maxHeartbeats 3200000 in
theorem qrRest11 (x : Nat) (hx : x < 262144) (w : World) :
    Calls Try.prog 105 #[.int .i64 x, .int .i64 1335, .int .i64 11] w fun e w' => e = .returned (.int .i64 (rrest 1335 11 8 x : Nat)) ∧ w = w' := by
  have h00 : Hid (rrest 1335 11 0 x = x) := Lib.hid rfl
  go_enter Try.func105, Try.ntmps105
  go_wp2_with fail
  go_loop [0, 7] (fun u i => ∃ k i' X : Nat, k ≤ 8 ∧ i' + k = 17 ∧ i = .int .i64 i' ∧ u = .int .i64 X ∧ X < 262144 ∧ Hid (rrest 1335 11 k x = X)) (fun _ i => (intOf i).toNat)
  case atStart => exact ⟨0, 17, x, by omega, by omega, rfl, rfl, hx, h00⟩
  case round =>
    obtain ⟨k, i', X, hk, hi, rfl, rfl, hX, HX⟩ := hrel
    clear h00 hx
    have hkk : k = 0 ∨ k = 1 ∨ k = 2 ∨ k = 3 ∨ k = 4 ∨ k = 5 ∨ k = 6 ∨ k = 7 ∨ k = 8 := by omega
    rcases hkk with rfl | rfl | rfl | rfl | rfl | rfl | rfl | rfl | rfl
    · obtain rfl : i' = 17 := by omega
      obtain ⟨q, hq⟩ : ∃ q, q = X / 131072 := ⟨_, rfl⟩
      have eq : (X : Int) / 131072 = (q : Int) := by omega
      have hand := i64_and1 q (by omega)
      obtain ⟨m, hm⟩ : ∃ m, m = q % 2 := ⟨_, rfl⟩
      rw [← hm] at hand
      by_cases h1 : m = 1
      · have hxor : bits .xor .i64 (X : Int) 170880 = ((X ^^^ 170880 : Nat) : Int) := i64_xor X 170880 (by omega) (by omega)
        have hY : X ^^^ 170880 < 262144 := Nat.xor_lt_two_pow (n := 18) hX (by omega)
        have HN : Hid (rrest 1335 11 (0 + 1) x = X ^^^ 170880) := Lib.hid (by
          show rstep 1335 11 17 (rrest 1335 11 0 x) = _
          rw [HX.out]; unfold rstep; rw [if_pos (by rw [show (2 : Nat) ^ 17 = 131072 from rfl, ← hq, ← hm]; exact h1)])
        generalize X ^^^ 170880 = Y at *
        subst h1
        clear hq hm HX
        go_wp2_with fail
        go_round
        case rel => exact ⟨0 + 1, 16, Y, by omega, by omega, rfl, rfl, hY, HN⟩
        case measure => simp [intOf]
      · have h0 : m = 0 := by omega
        have HN : Hid (rrest 1335 11 (0 + 1) x = X) := Lib.hid (by
          show rstep 1335 11 17 (rrest 1335 11 0 x) = _
          rw [HX.out]; unfold rstep; rw [if_neg (by rw [show (2 : Nat) ^ 17 = 131072 from rfl, ← hq, ← hm]; exact h1)])
        subst h0
        clear hq hm HX h1
        go_wp2_with fail
        go_round
        case rel => exact ⟨0 + 1, 16, X, by omega, by omega, rfl, rfl, hX, HN⟩
        case measure => simp [intOf]
    · obtain rfl : i' = 16 := by omega
      obtain ⟨q, hq⟩ : ∃ q, q = X / 65536 := ⟨_, rfl⟩
      have eq : (X : Int) / 65536 = (q : Int) := by omega
      have hand := i64_and1 q (by omega)
      obtain ⟨m, hm⟩ : ∃ m, m = q % 2 := ⟨_, rfl⟩
      rw [← hm] at hand
      by_cases h1 : m = 1
      · have hxor : bits .xor .i64 (X : Int) 85440 = ((X ^^^ 85440 : Nat) : Int) := i64_xor X 85440 (by omega) (by omega)
        have hY : X ^^^ 85440 < 262144 := Nat.xor_lt_two_pow (n := 18) hX (by omega)
        have HN : Hid (rrest 1335 11 (1 + 1) x = X ^^^ 85440) := Lib.hid (by
          show rstep 1335 11 16 (rrest 1335 11 1 x) = _
          rw [HX.out]; unfold rstep; rw [if_pos (by rw [show (2 : Nat) ^ 16 = 65536 from rfl, ← hq, ← hm]; exact h1)])
        generalize X ^^^ 85440 = Y at *
        subst h1
        clear hq hm HX
        go_wp2_with fail
        go_round
        case rel => exact ⟨1 + 1, 15, Y, by omega, by omega, rfl, rfl, hY, HN⟩
        case measure => simp [intOf]
      · have h0 : m = 0 := by omega
        have HN : Hid (rrest 1335 11 (1 + 1) x = X) := Lib.hid (by
          show rstep 1335 11 16 (rrest 1335 11 1 x) = _
          rw [HX.out]; unfold rstep; rw [if_neg (by rw [show (2 : Nat) ^ 16 = 65536 from rfl, ← hq, ← hm]; exact h1)])
        subst h0
        clear hq hm HX h1
        go_wp2_with fail
        go_round
        case rel => exact ⟨1 + 1, 15, X, by omega, by omega, rfl, rfl, hX, HN⟩
        case measure => simp [intOf]
    · obtain rfl : i' = 15 := by omega
      obtain ⟨q, hq⟩ : ∃ q, q = X / 32768 := ⟨_, rfl⟩
      have eq : (X : Int) / 32768 = (q : Int) := by omega
      have hand := i64_and1 q (by omega)
      obtain ⟨m, hm⟩ : ∃ m, m = q % 2 := ⟨_, rfl⟩
      rw [← hm] at hand
      by_cases h1 : m = 1
      · have hxor : bits .xor .i64 (X : Int) 42720 = ((X ^^^ 42720 : Nat) : Int) := i64_xor X 42720 (by omega) (by omega)
        have hY : X ^^^ 42720 < 262144 := Nat.xor_lt_two_pow (n := 18) hX (by omega)
        have HN : Hid (rrest 1335 11 (2 + 1) x = X ^^^ 42720) := Lib.hid (by
          show rstep 1335 11 15 (rrest 1335 11 2 x) = _
          rw [HX.out]; unfold rstep; rw [if_pos (by rw [show (2 : Nat) ^ 15 = 32768 from rfl, ← hq, ← hm]; exact h1)])
        generalize X ^^^ 42720 = Y at *
        subst h1
        clear hq hm HX
        go_wp2_with fail
        go_round
        case rel => exact ⟨2 + 1, 14, Y, by omega, by omega, rfl, rfl, hY, HN⟩
        case measure => simp [intOf]
      · have h0 : m = 0 := by omega
        have HN : Hid (rrest 1335 11 (2 + 1) x = X) := Lib.hid (by
          show rstep 1335 11 15 (rrest 1335 11 2 x) = _
          rw [HX.out]; unfold rstep; rw [if_neg (by rw [show (2 : Nat) ^ 15 = 32768 from rfl, ← hq, ← hm]; exact h1)])
        subst h0
        clear hq hm HX h1
        go_wp2_with fail
        go_round
        case rel => exact ⟨2 + 1, 14, X, by omega, by omega, rfl, rfl, hX, HN⟩
        case measure => simp [intOf]
    · obtain rfl : i' = 14 := by omega
      obtain ⟨q, hq⟩ : ∃ q, q = X / 16384 := ⟨_, rfl⟩
      have eq : (X : Int) / 16384 = (q : Int) := by omega
      have hand := i64_and1 q (by omega)
      obtain ⟨m, hm⟩ : ∃ m, m = q % 2 := ⟨_, rfl⟩
      rw [← hm] at hand
      by_cases h1 : m = 1
      · have hxor : bits .xor .i64 (X : Int) 21360 = ((X ^^^ 21360 : Nat) : Int) := i64_xor X 21360 (by omega) (by omega)
        have hY : X ^^^ 21360 < 262144 := Nat.xor_lt_two_pow (n := 18) hX (by omega)
        have HN : Hid (rrest 1335 11 (3 + 1) x = X ^^^ 21360) := Lib.hid (by
          show rstep 1335 11 14 (rrest 1335 11 3 x) = _
          rw [HX.out]; unfold rstep; rw [if_pos (by rw [show (2 : Nat) ^ 14 = 16384 from rfl, ← hq, ← hm]; exact h1)])
        generalize X ^^^ 21360 = Y at *
        subst h1
        clear hq hm HX
        go_wp2_with fail
        go_round
        case rel => exact ⟨3 + 1, 13, Y, by omega, by omega, rfl, rfl, hY, HN⟩
        case measure => simp [intOf]
      · have h0 : m = 0 := by omega
        have HN : Hid (rrest 1335 11 (3 + 1) x = X) := Lib.hid (by
          show rstep 1335 11 14 (rrest 1335 11 3 x) = _
          rw [HX.out]; unfold rstep; rw [if_neg (by rw [show (2 : Nat) ^ 14 = 16384 from rfl, ← hq, ← hm]; exact h1)])
        subst h0
        clear hq hm HX h1
        go_wp2_with fail
        go_round
        case rel => exact ⟨3 + 1, 13, X, by omega, by omega, rfl, rfl, hX, HN⟩
        case measure => simp [intOf]
    · obtain rfl : i' = 13 := by omega
      obtain ⟨q, hq⟩ : ∃ q, q = X / 8192 := ⟨_, rfl⟩
      have eq : (X : Int) / 8192 = (q : Int) := by omega
      have hand := i64_and1 q (by omega)
      obtain ⟨m, hm⟩ : ∃ m, m = q % 2 := ⟨_, rfl⟩
      rw [← hm] at hand
      by_cases h1 : m = 1
      · have hxor : bits .xor .i64 (X : Int) 10680 = ((X ^^^ 10680 : Nat) : Int) := i64_xor X 10680 (by omega) (by omega)
        have hY : X ^^^ 10680 < 262144 := Nat.xor_lt_two_pow (n := 18) hX (by omega)
        have HN : Hid (rrest 1335 11 (4 + 1) x = X ^^^ 10680) := Lib.hid (by
          show rstep 1335 11 13 (rrest 1335 11 4 x) = _
          rw [HX.out]; unfold rstep; rw [if_pos (by rw [show (2 : Nat) ^ 13 = 8192 from rfl, ← hq, ← hm]; exact h1)])
        generalize X ^^^ 10680 = Y at *
        subst h1
        clear hq hm HX
        go_wp2_with fail
        go_round
        case rel => exact ⟨4 + 1, 12, Y, by omega, by omega, rfl, rfl, hY, HN⟩
        case measure => simp [intOf]
      · have h0 : m = 0 := by omega
        have HN : Hid (rrest 1335 11 (4 + 1) x = X) := Lib.hid (by
          show rstep 1335 11 13 (rrest 1335 11 4 x) = _
          rw [HX.out]; unfold rstep; rw [if_neg (by rw [show (2 : Nat) ^ 13 = 8192 from rfl, ← hq, ← hm]; exact h1)])
        subst h0
        clear hq hm HX h1
        go_wp2_with fail
        go_round
        case rel => exact ⟨4 + 1, 12, X, by omega, by omega, rfl, rfl, hX, HN⟩
        case measure => simp [intOf]
    · obtain rfl : i' = 12 := by omega
      obtain ⟨q, hq⟩ : ∃ q, q = X / 4096 := ⟨_, rfl⟩
      have eq : (X : Int) / 4096 = (q : Int) := by omega
      have hand := i64_and1 q (by omega)
      obtain ⟨m, hm⟩ : ∃ m, m = q % 2 := ⟨_, rfl⟩
      rw [← hm] at hand
      by_cases h1 : m = 1
      · have hxor : bits .xor .i64 (X : Int) 5340 = ((X ^^^ 5340 : Nat) : Int) := i64_xor X 5340 (by omega) (by omega)
        have hY : X ^^^ 5340 < 262144 := Nat.xor_lt_two_pow (n := 18) hX (by omega)
        have HN : Hid (rrest 1335 11 (5 + 1) x = X ^^^ 5340) := Lib.hid (by
          show rstep 1335 11 12 (rrest 1335 11 5 x) = _
          rw [HX.out]; unfold rstep; rw [if_pos (by rw [show (2 : Nat) ^ 12 = 4096 from rfl, ← hq, ← hm]; exact h1)])
        generalize X ^^^ 5340 = Y at *
        subst h1
        clear hq hm HX
        go_wp2_with fail
        go_round
        case rel => exact ⟨5 + 1, 11, Y, by omega, by omega, rfl, rfl, hY, HN⟩
        case measure => simp [intOf]
      · have h0 : m = 0 := by omega
        have HN : Hid (rrest 1335 11 (5 + 1) x = X) := Lib.hid (by
          show rstep 1335 11 12 (rrest 1335 11 5 x) = _
          rw [HX.out]; unfold rstep; rw [if_neg (by rw [show (2 : Nat) ^ 12 = 4096 from rfl, ← hq, ← hm]; exact h1)])
        subst h0
        clear hq hm HX h1
        go_wp2_with fail
        go_round
        case rel => exact ⟨5 + 1, 11, X, by omega, by omega, rfl, rfl, hX, HN⟩
        case measure => simp [intOf]
    · obtain rfl : i' = 11 := by omega
      obtain ⟨q, hq⟩ : ∃ q, q = X / 2048 := ⟨_, rfl⟩
      have eq : (X : Int) / 2048 = (q : Int) := by omega
      have hand := i64_and1 q (by omega)
      obtain ⟨m, hm⟩ : ∃ m, m = q % 2 := ⟨_, rfl⟩
      rw [← hm] at hand
      by_cases h1 : m = 1
      · have hxor : bits .xor .i64 (X : Int) 2670 = ((X ^^^ 2670 : Nat) : Int) := i64_xor X 2670 (by omega) (by omega)
        have hY : X ^^^ 2670 < 262144 := Nat.xor_lt_two_pow (n := 18) hX (by omega)
        have HN : Hid (rrest 1335 11 (6 + 1) x = X ^^^ 2670) := Lib.hid (by
          show rstep 1335 11 11 (rrest 1335 11 6 x) = _
          rw [HX.out]; unfold rstep; rw [if_pos (by rw [show (2 : Nat) ^ 11 = 2048 from rfl, ← hq, ← hm]; exact h1)])
        generalize X ^^^ 2670 = Y at *
        subst h1
        clear hq hm HX
        go_wp2_with fail
        go_round
        case rel => exact ⟨6 + 1, 10, Y, by omega, by omega, rfl, rfl, hY, HN⟩
        case measure => simp [intOf]
      · have h0 : m = 0 := by omega
        have HN : Hid (rrest 1335 11 (6 + 1) x = X) := Lib.hid (by
          show rstep 1335 11 11 (rrest 1335 11 6 x) = _
          rw [HX.out]; unfold rstep; rw [if_neg (by rw [show (2 : Nat) ^ 11 = 2048 from rfl, ← hq, ← hm]; exact h1)])
        subst h0
        clear hq hm HX h1
        go_wp2_with fail
        go_round
        case rel => exact ⟨6 + 1, 10, X, by omega, by omega, rfl, rfl, hX, HN⟩
        case measure => simp [intOf]
    · obtain rfl : i' = 10 := by omega
      obtain ⟨q, hq⟩ : ∃ q, q = X / 1024 := ⟨_, rfl⟩
      have eq : (X : Int) / 1024 = (q : Int) := by omega
      have hand := i64_and1 q (by omega)
      obtain ⟨m, hm⟩ : ∃ m, m = q % 2 := ⟨_, rfl⟩
      rw [← hm] at hand
      by_cases h1 : m = 1
      · have hxor : bits .xor .i64 (X : Int) 1335 = ((X ^^^ 1335 : Nat) : Int) := i64_xor X 1335 (by omega) (by omega)
        have hY : X ^^^ 1335 < 262144 := Nat.xor_lt_two_pow (n := 18) hX (by omega)
        have HN : Hid (rrest 1335 11 (7 + 1) x = X ^^^ 1335) := Lib.hid (by
          show rstep 1335 11 10 (rrest 1335 11 7 x) = _
          rw [HX.out]; unfold rstep; rw [if_pos (by rw [show (2 : Nat) ^ 10 = 1024 from rfl, ← hq, ← hm]; exact h1)])
        generalize X ^^^ 1335 = Y at *
        subst h1
        clear hq hm HX
        go_wp2_with fail
        go_round
        case rel => exact ⟨7 + 1, 9, Y, by omega, by omega, rfl, rfl, hY, HN⟩
        case measure => simp [intOf]
      · have h0 : m = 0 := by omega
        have HN : Hid (rrest 1335 11 (7 + 1) x = X) := Lib.hid (by
          show rstep 1335 11 10 (rrest 1335 11 7 x) = _
          rw [HX.out]; unfold rstep; rw [if_neg (by rw [show (2 : Nat) ^ 10 = 1024 from rfl, ← hq, ← hm]; exact h1)])
        subst h0
        clear hq hm HX h1
        go_wp2_with fail
        go_round
        case rel => exact ⟨7 + 1, 9, X, by omega, by omega, rfl, rfl, hX, HN⟩
        case measure => simp [intOf]
    · obtain rfl : i' = 9 := by omega
      go_wp2_with fail
      go_ret
      exact ⟨by rw [HX.out]; rfl, rfl⟩

set_option maxRecDepth 100000 in
set_option maxHeartbeats 800000 in
theorem qrVersionBits (v : Nat) (hv : v < 64) (w : World) (hr : rrest 7973 13 6 (v * 4096) < 4096) :
    Calls Try.prog 109 #[.int .i64 v] w fun e w' => e = .returned (.int .i64 (vb v : Nat)) ∧ w = w' := by
  obtain ⟨x, hx⟩ : ∃ x, x = v * 4096 := ⟨_, rfl⟩
  have ex : (v : Int) * 4096 = (x : Int) := by omega
  have HR := Lib.hid (qrRest13 x (by omega) w)
  rw [← hx] at hr
  have HV : Hid (vb v = x ||| rrest 7973 13 6 x) := Lib.hid (by unfold vb; rw [← hx])
  obtain ⟨r, hrd⟩ : ∃ r, r = rrest 7973 13 6 x := ⟨_, rfl⟩
  rw [← hrd] at HR hr HV
  have hor := i64_or x r (by omega) (by omega)
  clear hx hrd
  go_enter Try.func109, Try.ntmps109
  go_wp2_with fail
  refine HR.out.mono ?_
  rintro e w1 ⟨rfl, rfl⟩
  go_wp2_with fail
  go_ret
  exact ⟨by rw [HV.out]; rfl, rfl⟩
theorem or38 : ∀ l : Fin 4, ∀ m : Fin 8, l.val * 8 ||| m.val = l.val * 8 + m.val := by decide

set_option maxRecDepth 100000 in
set_option maxHeartbeats 1600000 in
theorem qrFormatBits (l m : Nat) (hl : l < 4) (hm : m < 8) (w : World) :
    Calls Try.prog 75 #[.int .i64 l, .int .i64 m] w fun e w' => e = .returned (.int .i64 (fb (l * 8 + m) : Nat)) ∧ w = w' := by
  have h1 := or38 ⟨l, hl⟩ ⟨m, hm⟩
  simp only at h1
  have hor1 := i64_or (l * 8) m (by omega) (by omega)
  rw [h1] at hor1
  obtain ⟨d, hd⟩ : ∃ d, d = l * 8 + m := ⟨_, rfl⟩
  rw [← hd] at hor1 ⊢
  have hd32 : d < 32 := by omega
  have hfl := fb_lt ⟨d, hd32⟩
  simp only at hfl
  obtain ⟨l8, hl8⟩ : ∃ x, x = l * 8 := ⟨_, rfl⟩
  have e8 : (l : Int) * 8 = (l8 : Int) := by omega
  rw [← hl8] at hor1
  have hl8b : l8 < 32 := by omega
  clear hl8 hd h1
  obtain ⟨x, hx⟩ : ∃ x, x = d * 1024 := ⟨_, rfl⟩
  have ex : (d : Int) * 1024 = (x : Int) := by omega
  have HR := Lib.hid (qrRest11 x (by omega) w)
  have HV : Hid (fb d = (x ||| rrest 1335 11 8 x) ^^^ 21522) := Lib.hid (by unfold fb; rw [← hx])
  rw [← hx] at hfl
  obtain ⟨r, hrd⟩ : ∃ r, r = rrest 1335 11 8 x := ⟨_, rfl⟩
  rw [← hrd] at HR hfl HV
  have hxl : x < 32768 := by omega
  have hor := i64_or x r (by omega) (by omega)
  have hol : x ||| r < 2 ^ 18 := Nat.or_lt_two_pow (by omega) (by omega)
  generalize x ||| r = y at *
  have hxo : bits .xor .i64 (y : Int) 21522 = ((y ^^^ 21522 : Nat) : Int) := i64_xor y 21522 (by omega) (by omega)
  generalize y ^^^ 21522 = z at *
  clear hx hrd
  go_enter Try.func75, Try.ntmps75
  go_wp2_with fail
  refine HR.out.mono ?_
  rintro e w1 ⟨rfl, rfl⟩
  go_wp2_with fail
  go_ret
  exact ⟨by rw [HV.out]; rfl, rfl⟩

end Go.Proofs.Ythkiajighmhdoaa
