/-
  Numbers read from bytes bit by bit (FnBISplit). No program in sight.
-/
import Derived.Test.YthkiajighmhdoaaBase
namespace Go.Qz.BS
open Go.Qz
set_option linter.unusedVariables false

/-- The bit at a place, each byte's highest first. -/
def bitAt (B : List Nat) (p : Nat) : Nat := nth B (p / 8) / 2 ^ (7 - p % 8) % 2
/-- So many bits from a place on, as a number. -/
def num (B : List Nat) (p : Nat) : Nat → Nat
  | 0 => 0
  | n + 1 => 2 * num B p n + bitAt B (p + n)
theorem bitAt_lt (B : List Nat) (p : Nat) : bitAt B p < 2 := Nat.mod_lt _ (by omega)
theorem num_lt (B : List Nat) (p : Nat) : ∀ n, num B p n < 2 ^ n
  | 0 => by show 0 < 1; omega
  | n + 1 => by
    have h1 := num_lt B p n
    have h2 := bitAt_lt B (p + n)
    show 2 * num B p n + bitAt B (p + n) < 2 ^ (n + 1)
    rw [Nat.pow_succ]; omega
theorem num_add (B : List Nat) (p n : Nat) : ∀ m, num B p (n + m) = num B p n * 2 ^ m + num B (p + n) m
  | 0 => by show num B p n = num B p n * 1 + 0; omega
  | m + 1 => by
    show 2 * num B p (n + m) + bitAt B (p + (n + m)) = num B p n * 2 ^ (m + 1) + (2 * num B (p + n) m + bitAt B (p + n + m))
    rw [num_add B p n m, Nat.pow_succ, show p + (n + m) = p + n + m by omega, Nat.mul_add, ← Nat.mul_assoc (num B p n), Nat.mul_comm (num B p n * 2 ^ m) 2]
    omega
theorem num_in (B : List Nat) (p : Nat) : ∀ t, p % 8 + t ≤ 8 → num B p t = nth B (p / 8) / 2 ^ (8 - p % 8 - t) % 2 ^ t
  | 0, _ => by show 0 = _ % 1; omega
  | t + 1, h => by
    have ih := num_in B p t (by omega)
    show 2 * num B p t + bitAt B (p + t) = _
    rw [ih]
    unfold bitAt
    have e1 : (p + t) / 8 = p / 8 := by omega
    have e2 : (p + t) % 8 = p % 8 + t := by omega
    obtain ⟨k, hk⟩ : ∃ k, k = 7 - (p % 8 + t) := ⟨_, rfl⟩
    rw [e1, e2, ← hk, show 8 - p % 8 - t = k + 1 by omega, show 8 - p % 8 - (t + 1) = k by omega, Nat.pow_succ 2 t, Nat.mul_comm (2 ^ t) 2, Nat.mod_mul, Nat.pow_succ, ← Nat.div_div_eq_div_mul]
    omega
/-- A whole byte. -/
theorem num_byte (B : List Nat) (p n : Nat) (h : (p + n) % 8 = 0) (hb : nth B ((p + n) / 8) < 256) : num B p (n + 8) = num B p n * 256 + nth B ((p + n) / 8) := by
  rw [num_add, num_in B (p + n) 8 (by omega), h]
  have : nth B ((p + n) / 8) / 2 ^ (8 - 0 - 8) % 2 ^ 8 = nth B ((p + n) / 8) := by
    show nth B ((p + n) / 8) / 1 % 256 = _
    omega
  rw [this]
theorem num_bit (B : List Nat) (p n j : Nat) (h : j < n) : num B p n / 2 ^ (n - 1 - j) % 2 = bitAt B (p + j) := by
  obtain ⟨m, hm⟩ : ∃ m, m = n - 1 - j := ⟨_, rfl⟩
  have e := num_add B p (j + 1) m
  have hl := num_lt B (p + (j + 1)) m
  have h2 := bitAt_lt B (p + j)
  rw [← hm, show n = j + 1 + m by omega, e, Nat.mul_comm, Nat.mul_add_div (Nat.pow_pos (by omega)), Nat.div_eq_of_lt hl]
  show (2 * num B p j + bitAt B (p + j) + 0) % 2 = _
  omega
set_option maxRecDepth 1000000 in
theorem first_mask : ∀ o, o < 8 → ∀ t, t < 9 → o + t ≤ 8 → ∀ b, b < 256 → (b &&& (((255 >>> (8 - t)) <<< (8 - o - t)) % 256)) >>> (8 - o - t) = b / 2 ^ (8 - o - t) % 2 ^ t := by decide +kernel
/-- The rest of a byte, or a part of it, as ReadBits takes it. -/
theorem read_in (B : List Nat) (p t : Nat) (h : p % 8 + t ≤ 8) (hb : nth B (p / 8) < 256) : (nth B (p / 8) &&& (((255 >>> (8 - t)) <<< (8 - p % 8 - t)) % 256)) >>> (8 - p % 8 - t) = num B p t := by
  rw [num_in B p t h]
  exact first_mask _ (by omega) _ (by omega) h _ hb
end Go.Qz.BS
