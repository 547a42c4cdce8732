/-
  The count of EDIFACT against the number of bytes (plain). No program in sight.
-/
import Derived.Test.YtcadknfcahmdcaaGreatDWE
namespace Go.Qz.DV
open Go.Qz
set_option linter.unusedVariables false

/-- Quarters that EDIFACT counts for n bytes. -/
def eC (e0 : Nat) (f : Nat → Nat) : Nat → Nat
  | 0 => e0
  | n + 1 => eC e0 f n + (if isE (f n) = true then 3 else 13)
/-- No nine bytes in a row that EDIFACT has. -/
def Runs8 (f : Nat → Nat) : Prop := ∀ j n, (∀ i, i < n → isE (f (j + i)) = true) → n ≤ 8
/-- With the run that ends at n: each byte costs a quarter less than one, each run's end nine more. -/
theorem eC_run {e0 : Nat} {f : Nat → Nat} (h8 : Runs8 f) : ∀ n, ∃ r, r ≤ n ∧ (∀ i, i < r → isE (f (n - r + i)) = true) ∧ 4 * n + e0 ≤ eC e0 f n + r ∧ ((∃ k, k < n ∧ isE (f k) = false) → 4 * n + e0 + 1 ≤ eC e0 f n + r) ∧ (0 < n → isE (f 0) = false → 4 * n + e0 + 9 ≤ eC e0 f n + r)
  | 0 => ⟨0, Nat.le_refl _, fun i h => by omega, by simp [eC], fun ⟨k, h, _⟩ => by omega, fun h => by omega⟩
  | n + 1 => by
    obtain ⟨r, h1, h2, h3, h4, h5⟩ := eC_run (e0 := e0) h8 n
    have hr : r ≤ 8 := h8 (n - r) r h2
    cases hf : isE (f n) with
    | true =>
      refine ⟨r + 1, by omega, fun i hi => ?_, ?_, fun ⟨k, hk, hkf⟩ => ?_, fun _ h0 => ?_⟩
      · rw [show n + 1 - (r + 1) = n - r by omega]
        by_cases hi2 : i < r
        · exact h2 i hi2
        · rw [show n - r + i = n by omega]; exact hf
      · simp only [eC, hf, if_true]; omega
      · have hkn : k < n := by
          rcases Nat.lt_or_ge k n with h | h
          · exact h
          · rw [show k = n by omega, hf] at hkf; cases hkf
        have := h4 ⟨k, hkn, hkf⟩
        simp only [eC, hf, if_true]; omega
      · have : 0 < n := by
          rcases Nat.eq_zero_or_pos n with h | h
          · rw [h, h0] at hf; cases hf
          · exact h
        have := h5 this h0
        simp only [eC, hf, if_true]; omega
    | false =>
      refine ⟨0, by omega, fun i hi => by omega, ?_, fun _ => ?_, fun _ h0 => ?_⟩
      · simp only [eC, hf, Bool.false_eq_true, if_false]; omega
      · simp only [eC, hf, Bool.false_eq_true, if_false]; omega
      · rcases Nat.eq_zero_or_pos n with h | h
        · subst h; simp only [eC, hf, Bool.false_eq_true, if_false]; omega
        · have := h5 h h0
          simp only [eC, hf, Bool.false_eq_true, if_false]; omega
/-- From ASCII: EDIFACT counts less than the bytes only where eight of them are its own. -/
theorem eC_ascii {f : Nat → Nat} (h8 : Runs8 f) (n : Nat) (h : (eC 4 f n + 3) / 4 < n) : n = 8 ∧ ∀ i, i < 8 → isE (f i) = true := by
  obtain ⟨r, h1, h2, h3, h4, _⟩ := eC_run (e0 := 4) h8 n
  have hr : r ≤ 8 := h8 (n - r) r h2
  have hall : ∀ k, k < n → isE (f k) = true := fun k hk => by
    cases hf : isE (f k) with
    | true => rfl
    | false => have := h4 ⟨k, hk, hf⟩; omega
  have hn : n ≤ 8 := h8 0 n fun i hi => by rw [Nat.zero_add]; exact hall i hi
  have h8n : 8 ≤ n := by omega
  exact ⟨by omega, fun i hi => hall i (by omega)⟩
/-- From EDIFACT: a first byte that is not its own is never made good. -/
theorem eC_stay {f : Nat → Nat} (h8 : Runs8 f) (n : Nat) (hn : 0 < n) (h0 : isE (f 0) = false) : n + 1 ≤ (eC 0 f n + 3) / 4 := by
  obtain ⟨r, h1, h2, _, _, h5⟩ := eC_run (e0 := 0) h8 n
  have hr : r ≤ 8 := h8 (n - r) r h2
  have := h5 hn h0
  omega
end Go.Qz.DV
