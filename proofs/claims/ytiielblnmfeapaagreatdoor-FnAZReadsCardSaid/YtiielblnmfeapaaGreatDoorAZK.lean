
/-
  AZWordBits, AZUnstuffed, AZBegins, BISameBits, walked. No condition beyond the bounds that each theorem states.
-/
import Derived.Test.YtiielblnmfeapaaGreatDoorAZI
import Derived.Test.YtiielblnmfeapaaGreatDoorAZV
import Derived.BigQuiet
namespace Go.Proofs.YtiielblnmfeapaaGreatDoor
open Go.RowKit Go.Qz Go.Qz.RS
set_option linter.unusedVariables false

theorem Tryz.infoBoolK : (Tryz.prog.info? 4).map (fun i => (i.zero, i.size, i.bytes)) = some (some (.bool false), 1, 1) := by kernel_rfl
theorem rem_runK (a b c : Int) (h0 : ¬ b = 0) (h : a.tmod b = c) (W : World) : (binOp .rem 3 (.int .i64 a) (.int .i64 b)).run Tryz.prog W = .ok (.int .i64 c) W := by
  rw [← h]
  show Sem.run _ _ _ = _
  simp [binOp, go_sem, h0]
def BitsPost (l : List Bool) (w : World) (e : Ending) (w' : World) : Prop := ∃ v, e = .returned v ∧ w'.ownsRow w.heap.size 4 1 v l.length (l.map Value.bool) ∧ Below w.heap.size w w'
theorem flat_len (l : List Nat) (m : Nat) : (l.flatMap (bitsOf · m)).length = m * l.length := by
  induction l with
  | nil => simp
  | cons a l ih => simp only [List.flatMap_cons, List.length_append, ih, bitsOf_len, List.length_cons, Nat.mul_add]; omega
theorem take_nthK {l : List Nat} {k : Nat} (h : k < l.length) : l.take (k + 1) = l.take k ++ [nth l k] := by
  rw [List.take_succ_eq_append_getElem h, nth_eq h]

end Go.Proofs.YtiielblnmfeapaaGreatDoor
