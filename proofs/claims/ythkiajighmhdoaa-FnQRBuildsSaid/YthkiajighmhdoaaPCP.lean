/-
  Plain facts on how many bits are 1: the way in which the library counts them, and that the count of the bits in which two numbers differ is a distance. No program in sight.
-/
namespace Go.Qz.PC
set_option linter.unusedVariables false

/-- How many bits are 1. -/
def pc : Nat → Nat → Nat
  | 0, _ => 0
  | n + 1, x => x % 2 + pc n (x / 2)
theorem and_split (k u v m n : Nat) (hu : u < 2 ^ k) (hm : m < 2 ^ k) : (u + 2 ^ k * v) &&& (m + 2 ^ k * n) = (u &&& m) + 2 ^ k * (v &&& n) := by
  have h1 : u &&& m < 2 ^ k := Nat.and_lt_two_pow _ hm
  apply Nat.eq_of_testBit_eq
  intro j
  rw [Nat.testBit_and, Nat.add_comm u, Nat.add_comm m, Nat.add_comm (u &&& m), Nat.testBit_two_pow_mul_add _ hu, Nat.testBit_two_pow_mul_add _ hm, Nat.testBit_two_pow_mul_add _ h1]
  split
  · rw [Nat.testBit_and]
  · rw [Nat.testBit_and]
theorem and3 (x0 x1 x2 m R : Nat) (h0 : x0 < 256) (h1 : x1 < 256) (h2 : x2 < 256) (hm : m < 256) :
    (x0 + 256 * (x1 + 256 * x2)) &&& (m + 256 * (m + 256 * (m + 256 * R))) = (x0 &&& m) + 256 * ((x1 &&& m) + 256 * (x2 &&& m)) := by
  have e0 := and_split 8 x0 (x1 + 256 * x2) m (m + 256 * (m + 256 * R)) h0 hm
  have e1 := and_split 8 x1 x2 m (m + 256 * R) h1 hm
  have e2 := and_split 8 x2 0 m R h2 hm
  simp only [show 2 ^ 8 = 256 from rfl, Nat.mul_zero, Nat.add_zero, Nat.zero_and] at e0 e1 e2
  rw [e0, e1, e2]
def bA (y : Nat) : Nat := (y / 2 &&& 85) + (y &&& 85)
def bB (y : Nat) : Nat := (bA y / 4 &&& 51) + (bA y &&& 51)
def bC (y : Nat) : Nat := (bB y / 16 + bB y) % 16
theorem byte_facts : ∀ y : Fin 256, bA y.val < 256 ∧ bB y.val < 256 ∧ bB y.val / 16 + bB y.val < 80 ∧ bB y.val % 16 ≤ 4 ∧ bC y.val = pc 8 y.val ∧ bC y.val ≤ 8 := by decide +kernel
theorem and85 : ∀ y : Fin 128, ∀ t : Fin 2, (y.val + 128 * t.val) &&& 85 = y.val &&& 85 := by decide +kernel
theorem and51 : ∀ y : Fin 64, ∀ t : Fin 4, (y.val + 64 * t.val) &&& 51 = y.val &&& 51 := by decide +kernel
theorem and15 (y : Nat) : y &&& 15 = y % 16 := Nat.and_two_pow_sub_one_eq_mod y 4

theorem stage1 (x0 x1 x2 : Nat) (h0 : x0 < 256) (h1 : x1 < 256) (h2 : x2 < 256) :
    ((x0 + 256 * (x1 + 256 * x2)) / 2 &&& 6148914691236517205) + ((x0 + 256 * (x1 + 256 * x2)) &&& 6148914691236517205) = bA x0 + 256 * (bA x1 + 256 * bA x2) := by
  have eM : 6148914691236517205 = 85 + 256 * (85 + 256 * (85 + 256 * 366503875925)) := by decide
  have ex : (x0 + 256 * (x1 + 256 * x2)) / 2 = (x0 / 2 + 128 * (x1 % 2)) + 256 * ((x1 / 2 + 128 * (x2 % 2)) + 256 * (x2 / 2)) := by omega
  rw [eM, ex, and3 _ _ _ _ _ (by omega) (by omega) (by omega) (by omega), and3 _ _ _ _ _ h0 h1 h2 (by omega)]
  have e0 := and85 ⟨x0 / 2, by omega⟩ ⟨x1 % 2, by omega⟩
  have e1 := and85 ⟨x1 / 2, by omega⟩ ⟨x2 % 2, by omega⟩
  simp only at e0 e1
  rw [e0, e1]
  unfold bA
  omega
theorem stage2 (x0 x1 x2 : Nat) (h0 : x0 < 256) (h1 : x1 < 256) (h2 : x2 < 256) :
    ((bA x0 + 256 * (bA x1 + 256 * bA x2)) / 4 &&& 3689348814741910323) + ((bA x0 + 256 * (bA x1 + 256 * bA x2)) &&& 3689348814741910323) = bB x0 + 256 * (bB x1 + 256 * bB x2) := by
  have f0 := (byte_facts ⟨x0, h0⟩).1
  have f1 := (byte_facts ⟨x1, h1⟩).1
  have f2 := (byte_facts ⟨x2, h2⟩).1
  simp only at f0 f1 f2
  have u0 : bB x0 = (bA x0 / 4 &&& 51) + (bA x0 &&& 51) := rfl
  have u1 : bB x1 = (bA x1 / 4 &&& 51) + (bA x1 &&& 51) := rfl
  have u2 : bB x2 = (bA x2 / 4 &&& 51) + (bA x2 &&& 51) := rfl
  rw [u0, u1, u2]
  generalize bA x0 = a0 at *
  generalize bA x1 = a1 at *
  generalize bA x2 = a2 at *
  have eM : 3689348814741910323 = 51 + 256 * (51 + 256 * (51 + 256 * 219902325555)) := by decide
  have ex : (a0 + 256 * (a1 + 256 * a2)) / 4 = (a0 / 4 + 64 * (a1 % 4)) + 256 * ((a1 / 4 + 64 * (a2 % 4)) + 256 * (a2 / 4)) := by omega
  rw [eM, ex, and3 _ _ _ _ _ (by omega) (by omega) (by omega) (by omega), and3 _ _ _ _ _ f0 f1 f2 (by omega)]
  have e0 := and51 ⟨a0 / 4, by omega⟩ ⟨a1 % 4, by omega⟩
  have e1 := and51 ⟨a1 / 4, by omega⟩ ⟨a2 % 4, by omega⟩
  simp only at e0 e1
  rw [e0, e1]
  omega
theorem stage3 (x0 x1 x2 : Nat) (h0 : x0 < 256) (h1 : x1 < 256) (h2 : x2 < 256) :
    (((bB x0 + 256 * (bB x1 + 256 * bB x2)) / 16 + (bB x0 + 256 * (bB x1 + 256 * bB x2))) &&& 1085102592571150095) = bC x0 + 256 * (bC x1 + 256 * bC x2) := by
  obtain ⟨_, f0, g0, k0, _⟩ := byte_facts ⟨x0, h0⟩
  obtain ⟨_, f1, g1, k1, _⟩ := byte_facts ⟨x1, h1⟩
  obtain ⟨_, f2, g2, k2, _⟩ := byte_facts ⟨x2, h2⟩
  simp only at f0 f1 f2 g0 g1 g2 k0 k1 k2
  unfold bC
  generalize bB x0 = a0 at *
  generalize bB x1 = a1 at *
  generalize bB x2 = a2 at *
  have eM : 1085102592571150095 = 15 + 256 * (15 + 256 * (15 + 256 * 64677154575)) := by decide
  have ex : (a0 + 256 * (a1 + 256 * a2)) / 16 + (a0 + 256 * (a1 + 256 * a2)) = (a0 / 16 + a0 + 16 * (a1 % 16)) + 256 * ((a1 / 16 + a1 + 16 * (a2 % 16)) + 256 * (a2 / 16 + a2)) := by omega
  rw [eM, ex, and3 _ _ _ _ _ (by omega) (by omega) (by omega) (by omega), and15, and15, and15]
  omega
theorem pc_add : ∀ m n x, pc (m + n) x = pc m (x % 2 ^ m) + pc n (x / 2 ^ m)
  | 0, n, x => by simp [pc]
  | m + 1, n, x => by
    rw [show m + 1 + n = (m + n) + 1 by omega]
    simp only [pc]
    rw [pc_add m n (x / 2), Nat.pow_succ, Nat.mul_comm (2 ^ m) 2, Nat.mod_mul_right_mod, Nat.mod_mul_right_div_self, Nat.div_div_eq_div_mul]
    omega
/-- What the library's way of counting gives, step by step. -/
theorem count_steps (x : Nat) (hx : x < 16777216) : ∃ a b c d : Nat, (x / 2 &&& 6148914691236517205) + (x &&& 6148914691236517205) = a ∧ a < 16777216 ∧
    (a / 4 &&& 3689348814741910323) + (a &&& 3689348814741910323) = b ∧ b < 16777216 ∧ ((b / 16 + b) &&& 1085102592571150095) = c ∧ c < 16777216 ∧
    c + c / 256 + (c + c / 256) / 65536 = d ∧ d < 33554432 ∧ d % 128 = pc 24 x := by
  obtain ⟨x0, e0⟩ : ∃ x0, x0 = x % 256 := ⟨_, rfl⟩
  obtain ⟨x1, e1⟩ : ∃ x1, x1 = x / 256 % 256 := ⟨_, rfl⟩
  obtain ⟨x2, e2⟩ : ∃ x2, x2 = x / 65536 := ⟨_, rfl⟩
  have h0 : x0 < 256 := by omega
  have h1 : x1 < 256 := by omega
  have h2 : x2 < 256 := by omega
  have ex : x = x0 + 256 * (x1 + 256 * x2) := by omega
  have hp : pc 24 x = pc 8 x0 + pc 8 x1 + pc 8 x2 := by
    rw [show (24 : Nat) = 8 + (8 + 8) from rfl, pc_add 8 (8 + 8), pc_add 8 8, ← Nat.add_assoc, e0, e1, e2]
    have : x / 2 ^ 8 / 2 ^ 8 = x / 65536 := by rw [Nat.div_div_eq_div_mul]
    rw [this, show (2 : Nat) ^ 8 = 256 from rfl]
  obtain ⟨a0, b0, _, _, c0, d0⟩ := byte_facts ⟨x0, h0⟩
  obtain ⟨a1, b1, _, _, c1, d1⟩ := byte_facts ⟨x1, h1⟩
  obtain ⟨a2, b2, _, _, c2, d2⟩ := byte_facts ⟨x2, h2⟩
  simp only at a0 a1 a2 b0 b1 b2 c0 c1 c2 d0 d1 d2
  rw [hp, ← c0, ← c1, ← c2]
  clear hp e0 e1 e2
  subst ex
  refine ⟨_, _, _, _, stage1 x0 x1 x2 h0 h1 h2, by omega, stage2 x0 x1 x2 h0 h1 h2, by omega, stage3 x0 x1 x2 h0 h1 h2, by omega, rfl, by omega, ?_⟩
  generalize bC x0 = p at *
  generalize bC x1 = q at *
  generalize bC x2 = r at *
  have h1 : (p + 256 * (q + 256 * r)) / 256 = q + 256 * r := by omega
  rw [h1]
  have h2 : (p + 256 * (q + 256 * r) + (q + 256 * r)) / 65536 = r := by omega
  rw [h2]
  omega

/-- The count of bits is a distance. -/
theorem pc_xor_le : ∀ n x y, pc n (x ^^^ y) ≤ pc n x + pc n y
  | 0, _, _ => by simp [pc]
  | n + 1, x, y => by
    have h1 := pc_xor_le n (x / 2) (y / 2)
    have e1 : (x ^^^ y) / 2 = x / 2 ^^^ y / 2 := Nat.xor_div_two
    have e2 : (x ^^^ y) % 2 = (x % 2 ^^^ y % 2) := by simpa using Nat.xor_mod_two_pow (a := x) (b := y) (n := 1)
    have h2 : (x % 2 ^^^ y % 2) ≤ x % 2 + y % 2 := by
      rcases Nat.mod_two_eq_zero_or_one x with a | a <;> rcases Nat.mod_two_eq_zero_or_one y with b | b <;> rw [a, b] <;> decide
    simp only [pc]
    rw [e1, e2]
    omega
theorem pc_pow : ∀ n i, pc n (2 ^ i) ≤ 1
  | 0, _ => by simp [pc]
  | n + 1, 0 => by
    have : ∀ m, pc m 0 = 0 := fun m => by induction m with
      | zero => rfl
      | succ m ih => simp [pc, ih]
    simp [pc, this]
  | n + 1, i + 1 => by
    simp only [pc]
    rw [Nat.pow_succ, Nat.mul_mod_left, Nat.mul_div_cancel _ (by omega)]
    have := pc_pow n i
    omega
theorem pc_zero : ∀ n, pc n 0 = 0
  | 0 => rfl
  | n + 1 => by simp [pc, pc_zero n]
theorem pc_tri (n x y z : Nat) : pc n (x ^^^ z) ≤ pc n (x ^^^ y) + pc n (y ^^^ z) := by
  have h := pc_xor_le n (x ^^^ y) (y ^^^ z)
  have e : (x ^^^ y) ^^^ (y ^^^ z) = x ^^^ z := by rw [Nat.xor_assoc, ← Nat.xor_assoc y, Nat.xor_self, Nat.zero_xor]
  rw [e] at h
  exact h
end Go.Qz.PC
