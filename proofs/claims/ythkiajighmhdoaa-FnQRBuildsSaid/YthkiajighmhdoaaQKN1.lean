/-
  The count of data modules, checked by the kernel for some versions (plain).
-/
import Derived.Test.YthkiajighmhdoaaQKN
namespace Go.Qz.QK
set_option linter.unusedVariables false

set_option maxRecDepth 100000 in
theorem cnt_0 : ((tabR.drop 0).take 20).all okR = true := by decide +kernel
set_option maxRecDepth 100000 in
theorem cnt_1 : ((tabR.drop 20).take 8).all okR = true := by decide +kernel
end Go.Qz.QK
