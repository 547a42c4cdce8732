
/-
  ParseBoolMapToBitMatrix, with what lies behind a row's end. No condition beyond the bounds that each theorem states.
-/
import Derived.Test.YthgnmcofclndlaaBGR
import Derived.Deep.RegionHeld3
import Derived.Deep.DeepCutAuto
namespace Go.Proofs.Ythgnmcofclndlaa
open Go.RowKit Go.Qz
set_option linter.unusedVariables false

theorem at_injP {W x y x' y' : Nat} (hx : x < (W + 31) / 32 * 32) (hx' : x' < (W + 31) / 32 * 32) (h : y * ((W + 31) / 32) + x / 32 = y' * ((W + 31) / 32) + x' / 32) : y = y' ∧ x / 32 = x' / 32 := by
  have h1 : x / 32 < (W + 31) / 32 := by omega
  have h2 : x' / 32 < (W + 31) / 32 := by omega
  generalize (W + 31) / 32 = R at *
  have h3 : y = y' := by
    rcases Nat.lt_trichotomy y y' with a | a | a
    · have := Nat.mul_le_mul_right R (show y + 1 ≤ y' from a)
      rw [Nat.add_mul, Nat.one_mul] at this; omega
    · exact a
    · have := Nat.mul_le_mul_right R (show y' + 1 ≤ y from a)
      rw [Nat.add_mul, Nat.one_mul] at this; omega
  subst h3
  exact ⟨rfl, by omega⟩
theorem mb_setP (ws : List Nat) (W H x y i j : Nat) (hlen : ws.length = (W + 31) / 32 * H) (hi : i < W) (hj : j < H) (hx : x < (W + 31) / 32 * 32) :
    mb (ws.set (j * ((W + 31) / 32) + i / 32) (nth ws (j * ((W + 31) / 32) + i / 32) ||| 2 ^ (i % 32))) W x y = (mb ws W x y || decide (x = i ∧ y = j)) := by
  unfold mb
  rw [nth_set (by rw [hlen]; exact at_lt hi hj)]
  by_cases h : y * ((W + 31) / 32) + x / 32 = j * ((W + 31) / 32) + i / 32
  · obtain ⟨h1, h2⟩ := at_injP hx (show i < (W + 31) / 32 * 32 by omega) h
    rw [if_pos h, h, Nat.testBit_or, Nat.testBit_two_pow]
    congr 1
    rw [Bool.eq_iff_iff]
    simp only [decide_eq_true_eq]
    omega
  · rw [if_neg h]
    have : ¬ (x = i ∧ y = j) := by rintro ⟨rfl, rfl⟩; exact h rfl
    simp [this]
/-- Words that show the modules so far: the rows ahead, and of this row the first ones. -/
def ShowsP (ws : List Nat) (W H : Nat) (f : Nat → Nat → Bool) (k j : Nat) : Prop := ∀ x y, x < (W + 31) / 32 * 32 → y < H → mb ws W x y = (decide (x < W ∧ (y < k ∨ y = k ∧ x < j)) && f y x)

end Go.Proofs.Ythgnmcofclndlaa
