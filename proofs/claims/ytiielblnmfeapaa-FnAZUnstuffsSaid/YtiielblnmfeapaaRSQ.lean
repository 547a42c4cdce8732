/-
  Several texts of this claim in one. No condition beyond the bounds that each theorem states.
-/
import Derived.Test.YtiielblnmfeapaaRSA
import Derived.Deep.RegionHeld3
import Derived.Deep.DeepCutAuto
namespace Go.Proofs.Ytiielblnmfeapaa
open Go.RowKit Go.Qz Go.Qz.RS
set_option linter.unusedVariables false

/-- A polynomial of at most so many coefficients, from numbers. -/
def polyOf (F : Fld) (z : Nat → Int) (k : Nat) : List Nat := if k = 0 then [0] else tidy (elems F z k)
theorem polyOf_ne (F : Fld) (z : Nat → Int) (k : Nat) : polyOf F z k ≠ [] := by
  unfold polyOf
  split
  · simp
  · rename_i h
    exact tidy_ne _ (fun e => by have := congrArg List.length e; rw [elems_length, List.length_nil] at this; exact h this)
theorem polyOf_tidy (F : Fld) (z : Nat → Int) (k : Nat) : tidy (polyOf F z k) = polyOf F z k := by
  unfold polyOf
  split
  · rfl
  · exact tidy_tidy _
theorem mem_tidy : ∀ (l : List Nat) (x : Nat), x ∈ tidy l → x ∈ l
  | [], _, h => h
  | [a], _, h => h
  | a :: b :: t, x, h => by
    unfold tidy at h
    split at h
    · exact List.mem_cons_of_mem _ (mem_tidy (b :: t) x h)
    · exact h
theorem polyOf_lt (F : Fld) (hF : 4 ≤ F.size) (z : Nat → Int) (k : Nat) : ∀ j, nth (polyOf F z k) j < F.size := by
  intro j
  by_cases h : j < (polyOf F z k).length
  · rw [nth_eq h]
    have hm := List.getElem_mem h
    revert hm
    generalize (polyOf F z k)[j] = x
    unfold polyOf
    split
    · intro hm; have : x = 0 := by simpa using hm
      omega
    · intro hm
      exact elems_lt F hF z k x (mem_tidy _ _ hm)
  · have : nth (polyOf F z k) j = 0 := by unfold nth; rw [List.getD_eq_getElem?_getD, List.getElem?_eq_none (by omega)]; rfl
    rw [this]; omega
theorem polyOf_length (F : Fld) (z : Nat → Int) (k : Nat) : (polyOf F z k).length ≤ k + 1 := by
  unfold polyOf
  split
  · simp
  · have := tidy_length (elems F z k); rw [elems_length] at this; omega

end Go.Proofs.Ytiielblnmfeapaa
namespace Go.Proofs.Ytiielblnmfeapaa
open Go.RowKit Go.Qz Go.Qz.RS
set_option linter.unusedVariables false

end Go.Proofs.Ytiielblnmfeapaa
