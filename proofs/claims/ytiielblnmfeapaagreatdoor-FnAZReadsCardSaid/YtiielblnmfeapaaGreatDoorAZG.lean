/-
  Stuffing and its undoing (plain). No program in sight.
-/
import Derived.Test.YtiielblnmfeapaaGreatDoorAZM
namespace Go.Proofs.YtiielblnmfeapaaGreatDoor
open Go.RowKit Go.Qz
set_option linter.unusedVariables false

/-- Bits, and ones behind them. -/
def bitI (L : List Bool) (i : Nat) : Bool := if i < L.length then nthB L i else true
/-- The number of t bits from i on, ones behind the last one. -/
def vi (L : List Bool) (i : Nat) : Nat → Nat
  | 0 => 0
  | t + 1 => 2 * vi L i t + (bitI L (i + t)).toNat
theorem vi_lt (L : List Bool) (i : Nat) : ∀ t, vi L i t < 2 ^ t
  | 0 => by show 0 < 1; omega
  | t + 1 => by
    have := vi_lt L i t
    have h2 : (bitI L (i + t)).toNat ≤ 1 := by cases bitI L (i + t) <;> simp
    show 2 * vi L i t + _ < 2 ^ (t + 1)
    rw [Nat.pow_succ]; omega
theorem vi_bit (L : List Bool) (i : Nat) : ∀ t j, j < t → (vi L i t).testBit (t - 1 - j) = bitI L (i + j)
  | t + 1, j, hj => by
    show (2 * vi L i t + (bitI L (i + t)).toNat).testBit (t + 1 - 1 - j) = _
    by_cases h : j = t
    · subst h
      rw [show j + 1 - 1 - j = 0 by omega, Nat.testBit_zero]
      cases bitI L (i + j) <;> simp
    · rw [show t + 1 - 1 - j = (t - 1 - j) + 1 by omega, Nat.testBit_succ]
      have e : (2 * vi L i t + (bitI L (i + t)).toNat) / 2 = vi L i t := by
        cases bitI L (i + t) <;> simp <;> omega
      rw [e]
      exact vi_bit L i t j (by omega)
/-- The bits of a stretch. -/
def stretch (L : List Bool) (i m : Nat) : List Bool := (List.range m).map fun j => bitI L (i + j)
theorem bits_vi (L : List Bool) (i m : Nat) : bitsOf (vi L i m) m = stretch L i m := by
  unfold bitsOf stretch
  apply List.map_congr_left
  intro j hj
  exact vi_bit L i m j (List.mem_range.1 hj)
theorem stretch_add (L : List Bool) (i m k : Nat) : stretch L i (m + k) = stretch L i m ++ stretch L (i + m) k := by
  unfold stretch
  rw [List.range_add, List.map_append, List.map_map]
  congr 1
  apply List.map_congr_left
  intro j _
  show bitI L (i + (m + j)) = bitI L (i + m + j)
  rw [Nat.add_assoc]

/-- A word from place i on, and how many bits it takes. -/
def stW (L : List Bool) (w i : Nat) : Nat := if vi L i (w - 1) = 0 then 1 else if vi L i (w - 1) = 2 ^ (w - 1) - 1 then 2 * vi L i (w - 1) else 2 * vi L i (w - 1) + (bitI L (i + (w - 1))).toNat
def stN (L : List Bool) (w i : Nat) : Nat := if vi L i (w - 1) = 0 then w - 1 else if vi L i (w - 1) = 2 ^ (w - 1) - 1 then w - 1 else w
/-- The words, from place i on, so many rounds at most. -/
inductive Stuff (L : List Bool) (w : Nat) : Nat → List Nat → Nat → Prop where
  | nil (i : Nat) : Stuff L w i [] i
  | snoc {i k : Nat} {ws : List Nat} (h : Stuff L w i ws k) (hk : k < L.length) : Stuff L w i (ws ++ [stW L w k]) (k + stN L w k)
/-- What a word says. -/
def unW (w x : Nat) : List Bool := if x = 1 ∨ x = 2 ^ w - 2 then bitsOf (x / 2) (w - 1) else bitsOf x w
def unst (w : Nat) (ws : List Nat) : List Bool := ws.flatMap (unW w)
theorem stW_ok {L : List Bool} {w i : Nat} (hw : 4 ≤ w) : 0 < stW L w i ∧ stW L w i < 2 ^ w - 1 ∧ unW w (stW L w i) = stretch L i (stN L w i) ∧ 0 < stN L w i ∧ stN L w i ≤ w := by
  have hp : 2 ^ w = 2 * 2 ^ (w - 1) := by
    have := Nat.pow_succ 2 (w - 1)
    rw [show (w - 1).succ = w by omega] at this; omega
  have hp2 : 8 ≤ 2 ^ (w - 1) := by
    have : 2 ^ 3 ≤ 2 ^ (w - 1) := Nat.pow_le_pow_right (by omega) (by omega)
    omega
  have hv := vi_lt L i (w - 1)
  have hb := bits_vi L i (w - 1)
  have hb2 := bits_vi L i w
  have hvw : vi L i w = 2 * vi L i (w - 1) + (bitI L (i + (w - 1))).toNat := by
    obtain ⟨u, rfl⟩ : ∃ u, w = u + 1 := ⟨w - 1, by omega⟩
    rfl
  have ht : (bitI L (i + (w - 1))).toNat ≤ 1 := by cases bitI L (i + (w - 1)) <;> simp
  unfold stW stN unW
  by_cases h0 : vi L i (w - 1) = 0
  · rw [if_pos h0, if_pos h0, if_pos (.inl rfl)]
    refine ⟨by omega, by omega, ?_, by omega, by omega⟩
    rw [← hb, h0]
  · rw [if_neg h0, if_neg h0]
    by_cases h1 : vi L i (w - 1) = 2 ^ (w - 1) - 1
    · rw [if_pos h1, if_pos h1, if_pos (.inr (by omega))]
      refine ⟨by omega, by omega, ?_, by omega, by omega⟩
      rw [← hb, show 2 * vi L i (w - 1) / 2 = vi L i (w - 1) by omega]
    · rw [if_neg h1, if_neg h1, if_neg (by omega)]
      refine ⟨by omega, by omega, ?_, by omega, by omega⟩
      rw [← hb2, hvw]
theorem Stuff.un {L : List Bool} {w i k : Nat} {ws : List Nat} (hw : 4 ≤ w) (h : Stuff L w i ws k) : i ≤ k ∧ unst w ws = stretch L i (k - i) ∧ ws.length ≤ k - i ∧ ∀ x, x ∈ ws → 0 < x ∧ x < 2 ^ w - 1 := by
  induction h with
  | nil => exact ⟨Nat.le_refl _, by simp [unst, stretch], by simp, by simp⟩
  | @snoc k ws h hk ih =>
    obtain ⟨h1, h2, h3, h4⟩ := ih
    obtain ⟨s1, s2, s3, s4, s5⟩ := stW_ok (L := L) (i := k) hw
    refine ⟨by omega, ?_, ?_, ?_⟩
    · unfold unst at h2 ⊢
      rw [List.flatMap_append, h2, show k + stN L w k - i = (k - i) + stN L w k by omega, stretch_add, show i + (k - i) = k by omega, ← s3]
      simp
    · rw [List.length_append]; simp; omega
    · intro x hx
      rcases List.mem_append.1 hx with h | h
      · exact h4 x h
      · have : x = stW L w k := by simpa using h
        rw [this]; exact ⟨s1, s2⟩
/-- All bits, and ones behind them. -/
theorem Stuff.all {L : List Bool} {w k : Nat} {ws : List Nat} (hw : 4 ≤ w) (h : Stuff L w 0 ws k) (hk : L.length ≤ k) : unst w ws = L ++ List.replicate (k - L.length) true := by
  obtain ⟨_, h2, _, _⟩ := h.un hw
  rw [h2, Nat.sub_zero]
  apply List.ext_getElem
  · simp [stretch]; omega
  · intro j h1 h2
    simp only [stretch, List.getElem_map, List.getElem_range, Nat.zero_add]
    rw [List.getElem_append]
    unfold bitI
    split
    · rename_i h; rw [nthB_eq h]
    · simp
end Go.Proofs.YtiielblnmfeapaaGreatDoor
