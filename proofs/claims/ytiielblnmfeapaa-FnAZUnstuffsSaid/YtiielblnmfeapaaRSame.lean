
/-
  RSSame, walked: whether two lists of numbers are the same. No condition.
-/
import Derived.Test.YtiielblnmfeapaaRows
import Derived.Test.YtiielblnmfeapaaBase
import Derived.Deep.QuietTactic
import Derived.BigQuiet
namespace Go.Proofs.Ytiielblnmfeapaa
open Go.RowKit Go.Qz
set_option linter.unusedVariables false

/-- n elements f and m elements g are the same. -/
def SameP (n m : Nat) (f g : Nat → Int) (r : Bool) : Prop := r = true ↔ n = m ∧ ∀ j, j < n → f j = g j

end Go.Proofs.Ytiielblnmfeapaa
