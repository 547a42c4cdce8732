
/-
  The exceptions that the package makes: not found. No condition.
-/
import Derived.Test.YtcadknfcahmdcaaGreatBase
import Derived.Test.YtcadknfcahmdcaaGreatRows
import Derived.WideLaws
namespace Go.Proofs.YtcadknfcahmdcaaGreat
open Go.RowKit Go.Qz
set_option linter.unusedVariables false

set_option maxRecDepth 100000 in
theorem exc_new (s : ByteArray) (A : Option Addr) (n c : Nat) (w : World) :
    Calls Tryz.prog 77 #[.string s, .slice A n c] w fun e w' => e = .returned (.agg #[.string s, .nilIface]) ∧ Below w.heap.size w w' := by
  go_enter Tryz.func77, Tryz.ntmps77
  go_wp2_with fail
  exact bodyPost_ret (v := .agg #[.string s, .nilIface]) (by simp [results, Tryz.results77, go_sem]) rfl ⟨rfl, (Below.refl _ _).alloc (Nat.le_refl _) _⟩

theorem errIface : Tryz.prog.underlying 41 = some (.interface (Tryz.prog.methodsAt 41)) := by kernel_rfl
theorem Tryz.infoInt : (Tryz.prog.info? 3).map (fun i => (i.zero, i.size, i.bytes)) = some (some (.int .i64 0), 1, 8) := by kernel_rfl
end Go.Proofs.YtcadknfcahmdcaaGreat
