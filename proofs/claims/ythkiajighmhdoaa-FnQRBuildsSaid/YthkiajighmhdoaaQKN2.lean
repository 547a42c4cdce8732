/-
  The count of data modules, checked by the kernel for some versions (plain).
-/
import Derived.Test.YthkiajighmhdoaaQKN
namespace Go.Qz.QK
set_option linter.unusedVariables false

set_option maxRecDepth 100000 in
theorem cnt_2 : ((tabR.drop 28).take 6).all okR = true := by decide +kernel
end Go.Qz.QK
