
/-
  FnBIRanges: whether all bits of a range are alike. The walks and the law. No condition.
-/
import Derived.Test.YthkiajighmhdoaaBA
import Derived.Deep.DeepCutAuto
import Derived.Deep.LoopGhost
namespace Go.Proofs.Ythkiajighmhdoaa
open Go.RowKit Go.Qz
set_option linter.unusedVariables false

/-- The bits from fb to lb. -/
def mask (fb lb : Nat) : Nat := 2 ^ (lb + 1) - 2 ^ fb
theorem mask_bit (fb lb r : Nat) (h : fb ≤ lb) : (mask fb lb).testBit r = decide (fb ≤ r ∧ r ≤ lb) := by
  have e : mask fb lb = (2 ^ (lb + 1 - fb) - 1) <<< fb := by
    unfold mask
    rw [Nat.shiftLeft_eq, Nat.sub_mul, ← Nat.pow_add, show lb + 1 - fb + fb = lb + 1 by omega, Nat.one_mul]
  rw [e, Nat.testBit_shiftLeft, Nat.testBit_two_pow_sub_one, Bool.eq_iff_iff]
  simp; omega
theorem mask_lt (fb lb : Nat) (h : lb ≤ 31) : mask fb lb < 4294967296 := by
  unfold mask
  have h1 : 2 ^ (lb + 1) ≤ 2 ^ 32 := Nat.pow_le_pow_right (by omega) (by omega)
  have h2 : 0 < 2 ^ fb := Nat.pow_pos (by decide)
  omega
/-- A word's bits from fb to lb are all v. -/
theorem word_all (x fb lb : Nat) (v : Bool) (h : fb ≤ lb) : (x &&& mask fb lb = if v then mask fb lb else 0) ↔ ∀ r, fb ≤ r → r ≤ lb → x.testBit r = v := by
  constructor
  · intro he r h1 h2
    have := congrArg (fun y => y.testBit r) he
    simp only [Nat.testBit_and, mask_bit fb lb r h, h1, h2, and_self, decide_true, Bool.and_true] at this
    rw [this]
    cases v
    · simp
    · simp [mask_bit fb lb r h, h1, h2]
  · intro ha
    apply Nat.eq_of_testBit_eq
    intro r
    rw [Nat.testBit_and, mask_bit fb lb r h]
    by_cases hr : fb ≤ r ∧ r ≤ lb
    · rw [ha r hr.1 hr.2]
      cases v <;> simp [hr, mask_bit fb lb r h]
    · cases v <;> simp [hr, mask_bit fb lb r h]

def allBits (ws : List Nat) (s e : Nat) (v : Bool) : Bool := decide (∀ i, i < e → s ≤ i → bit ws i = v)

end Go.Proofs.Ythkiajighmhdoaa
