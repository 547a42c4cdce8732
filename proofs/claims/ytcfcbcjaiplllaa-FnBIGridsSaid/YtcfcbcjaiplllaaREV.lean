/-
  bits.Reverse32, ReverseBytes32: plain, then walked. No condition.
-/
import Derived.Test.YtcfcbcjaiplllaaBM
namespace Go.Proofs.Ytcfcbcjaiplllaa
open Go.RowKit Go.Qz
set_option linter.unusedVariables false

/-- One stage: parts of k bits change places, by a mask. -/
def stg (k m x : Nat) : Nat := ((x / 2 ^ k) &&& m) ||| ((x &&& m) * 2 ^ k % 4294967296)
theorem stg_bit (k m x i : Nat) (hi : i < 32) : (stg k m x).testBit i = ((x.testBit (i + k) && m.testBit i) || (decide (k ≤ i) && (x.testBit (i - k) && m.testBit (i - k)))) := by
  unfold stg
  rw [Nat.testBit_or, Nat.testBit_and, Nat.testBit_div_two_pow, show (4294967296 : Nat) = 2 ^ 32 from rfl, Nat.testBit_mod_two_pow]
  congr 1
  rw [Nat.testBit_mul_two_pow]
  simp [hi]
theorem stg_lt (k m x : Nat) (hm : m < 4294967296) : stg k m x < 4294967296 := by
  unfold stg
  have h1 : (x / 2 ^ k) &&& m < 2 ^ 32 := Nat.and_lt_two_pow _ hm
  have h2 : (x &&& m) * 2 ^ k % 4294967296 < 2 ^ 32 := Nat.mod_lt _ (by decide)
  exact Nat.or_lt_two_pow h1 h2
/-- The last stage: halves change places, without a mask. -/
def lst (x : Nat) : Nat := (x / 2 ^ 16) ||| (x * 2 ^ 16 % 4294967296)
theorem bit_hi {x : Nat} (hx : x < 4294967296) {i : Nat} (hi : 32 ≤ i) : x.testBit i = false :=
  Nat.testBit_lt_two_pow (Nat.lt_of_lt_of_le (show x < 2 ^ 32 from hx) (Nat.pow_le_pow_right (by omega) hi))
theorem lst_lt (x : Nat) (hx : x < 4294967296) : lst x < 4294967296 := by
  unfold lst
  have h1 : x / 2 ^ 16 < 2 ^ 32 := Nat.lt_of_le_of_lt (Nat.div_le_self _ _) hx
  have h2 : x * 2 ^ 16 % 4294967296 < 2 ^ 32 := Nat.mod_lt _ (by decide)
  exact Nat.or_lt_two_pow h1 h2
/-- The word turned round. -/
def rv (x : Nat) : Nat := lst (stg 8 16711935 (stg 4 252645135 (stg 2 858993459 (stg 1 1431655765 x))))
theorem rv_lt (x : Nat) : rv x < 4294967296 := lst_lt _ (stg_lt _ _ _ (by decide))
def sw (k i : Nat) : Nat := if i / k % 2 = 0 then i + k else i - k
theorem lst_bit (x i : Nat) (hx : x < 4294967296) (hi : i < 32) : (lst x).testBit i = x.testBit (sw 16 i) := by
  unfold lst sw
  rw [Nat.testBit_or, Nat.testBit_div_two_pow, show (4294967296 : Nat) = 2 ^ 32 from rfl, Nat.testBit_mod_two_pow, Nat.testBit_mul_two_pow]
  by_cases h : i < 16
  · rw [if_pos (by omega)]
    have : decide (16 ≤ i) = false := by simp; omega
    simp [this]
  · rw [if_neg (by omega), bit_hi hx (show 32 ≤ i + 16 by omega)]
    have : decide (16 ≤ i) = true := by simp; omega
    simp [this, hi]
theorem s1_bit (x i : Nat) (hi : i < 32) : (stg 1 1431655765 x).testBit i = x.testBit (sw 1 i) := by
  have hm : ∀ i, i < 32 → (1431655765 : Nat).testBit i = decide (i / 1 % 2 = 0) := by decide
  rw [stg_bit _ _ _ _ hi, hm i hi, hm (i - 1) (by omega)]
  unfold sw
  by_cases h : i / 1 % 2 = 0
  · rw [if_pos h]
    by_cases h1 : 1 ≤ i
    · have : ¬ (i - 1) / 1 % 2 = 0 := by omega
      simp only [h, this, decide_true, decide_false, Bool.and_true, Bool.and_false, Bool.or_false]
    · simp only [h, h1, decide_true, decide_false, Bool.and_true, Bool.false_and, Bool.or_false]
  · rw [if_neg h]
    have h1 : 1 ≤ i := by omega
    have h2 : (i - 1) / 1 % 2 = 0 := by omega
    simp only [h, h1, h2, decide_true, decide_false, Bool.and_true, Bool.and_false, Bool.true_and, Bool.false_or]
theorem s2_bit (x i : Nat) (hi : i < 32) : (stg 2 858993459 x).testBit i = x.testBit (sw 2 i) := by
  have hm : ∀ i, i < 32 → (858993459 : Nat).testBit i = decide (i / 2 % 2 = 0) := by decide
  rw [stg_bit _ _ _ _ hi, hm i hi, hm (i - 2) (by omega)]
  unfold sw
  by_cases h : i / 2 % 2 = 0
  · rw [if_pos h]
    by_cases h1 : 2 ≤ i
    · have : ¬ (i - 2) / 2 % 2 = 0 := by omega
      simp only [h, this, decide_true, decide_false, Bool.and_true, Bool.and_false, Bool.or_false]
    · simp only [h, h1, decide_true, decide_false, Bool.and_true, Bool.false_and, Bool.or_false]
  · rw [if_neg h]
    have h1 : 2 ≤ i := by omega
    have h2 : (i - 2) / 2 % 2 = 0 := by omega
    simp only [h, h1, h2, decide_true, decide_false, Bool.and_true, Bool.and_false, Bool.true_and, Bool.false_or]
theorem s4_bit (x i : Nat) (hi : i < 32) : (stg 4 252645135 x).testBit i = x.testBit (sw 4 i) := by
  have hm : ∀ i, i < 32 → (252645135 : Nat).testBit i = decide (i / 4 % 2 = 0) := by decide
  rw [stg_bit _ _ _ _ hi, hm i hi, hm (i - 4) (by omega)]
  unfold sw
  by_cases h : i / 4 % 2 = 0
  · rw [if_pos h]
    by_cases h1 : 4 ≤ i
    · have : ¬ (i - 4) / 4 % 2 = 0 := by omega
      simp only [h, this, decide_true, decide_false, Bool.and_true, Bool.and_false, Bool.or_false]
    · simp only [h, h1, decide_true, decide_false, Bool.and_true, Bool.false_and, Bool.or_false]
  · rw [if_neg h]
    have h1 : 4 ≤ i := by omega
    have h2 : (i - 4) / 4 % 2 = 0 := by omega
    simp only [h, h1, h2, decide_true, decide_false, Bool.and_true, Bool.and_false, Bool.true_and, Bool.false_or]
theorem s8_bit (x i : Nat) (hi : i < 32) : (stg 8 16711935 x).testBit i = x.testBit (sw 8 i) := by
  have hm : ∀ i, i < 32 → (16711935 : Nat).testBit i = decide (i / 8 % 2 = 0) := by decide
  rw [stg_bit _ _ _ _ hi, hm i hi, hm (i - 8) (by omega)]
  unfold sw
  by_cases h : i / 8 % 2 = 0
  · rw [if_pos h]
    by_cases h1 : 8 ≤ i
    · have : ¬ (i - 8) / 8 % 2 = 0 := by omega
      simp only [h, this, decide_true, decide_false, Bool.and_true, Bool.and_false, Bool.or_false]
    · simp only [h, h1, decide_true, decide_false, Bool.and_true, Bool.false_and, Bool.or_false]
  · rw [if_neg h]
    have h1 : 8 ≤ i := by omega
    have h2 : (i - 8) / 8 % 2 = 0 := by omega
    simp only [h, h1, h2, decide_true, decide_false, Bool.and_true, Bool.and_false, Bool.true_and, Bool.false_or]
theorem rv_bit (x i : Nat) (hi : i < 32) : (rv x).testBit i = x.testBit (31 - i) := by
  have l16 : ∀ i, i < 32 → sw 16 i < 32 := by decide
  have l8 : ∀ i, i < 32 → sw 8 i < 32 := by decide
  have l4 : ∀ i, i < 32 → sw 4 i < 32 := by decide
  have l2 : ∀ i, i < 32 → sw 2 i < 32 := by decide
  have all : ∀ i, i < 32 → sw 1 (sw 2 (sw 4 (sw 8 (sw 16 i)))) = 31 - i := by decide
  unfold rv
  rw [lst_bit _ _ (stg_lt _ _ _ (by decide)) hi, s8_bit _ _ (l16 _ hi), s4_bit _ _ (l8 _ (l16 _ hi)), s2_bit _ _ (l4 _ (l8 _ (l16 _ hi))), s1_bit _ _ (l2 _ (l4 _ (l8 _ (l16 _ hi)))), all i hi]
end Go.Proofs.Ytcfcbcjaiplllaa
