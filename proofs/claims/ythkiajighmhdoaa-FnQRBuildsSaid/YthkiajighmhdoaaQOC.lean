
/-
  OnesCount64, OnesCount, NumBitsDiffering, walked. No condition beyond the bounds that each theorem states.
-/
import Derived.Test.YthkiajighmhdoaaBase
import Derived.Test.YthkiajighmhdoaaRows
import Derived.Test.YthkiajighmhdoaaPCP
import Derived.Laws.BitsAllLaws
namespace Go.Proofs.Ythkiajighmhdoaa
open Go.RowKit Go.Qz Go.Qz.PC
set_option linter.unusedVariables false

theorem i64_and_127 (d : Nat) (hd : d < 33554432) : bits .and .i64 (d : Int) 127 = ((d % 128 : Nat) : Int) := by
  have h := i64_and d 127 (by omega) (by omega)
  rw [show d &&& 127 = d % 128 from Nat.and_two_pow_sub_one_eq_mod d 7] at h
  exact h

end Go.Proofs.Ythkiajighmhdoaa
