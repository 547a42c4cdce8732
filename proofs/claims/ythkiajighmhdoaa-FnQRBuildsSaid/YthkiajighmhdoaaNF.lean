
/-
  The exceptions that the package makes: not found. No condition.
-/
import Derived.Test.YthkiajighmhdoaaBase
import Derived.Test.YthkiajighmhdoaaRows
import Derived.WideLaws
namespace Go.Proofs.Ythkiajighmhdoaa
open Go.RowKit Go.Qz
set_option linter.unusedVariables false

set_option maxRecDepth 100000 in
theorem exc_new (s : ByteArray) (A : Option Addr) (n c : Nat) (w : World) :
    Calls Try.prog 84 #[.string s, .slice A n c] w fun e w' => e = .returned (.agg #[.string s, .nilIface]) ∧ Below w.heap.size w w' := by
  go_enter Try.func84, Try.ntmps84
  go_wp2_with fail
  exact bodyPost_ret (v := .agg #[.string s, .nilIface]) (by simp [results, Try.results84, go_sem]) rfl ⟨rfl, (Below.refl _ _).alloc (Nat.le_refl _) _⟩

theorem errIface : Try.prog.underlying 60 = some (.interface (Try.prog.methodsAt 60)) := by kernel_rfl
theorem Try.infoInt : (Try.prog.info? 3).map (fun i => (i.zero, i.size, i.bytes)) = some (some (.int .i64 0), 1, 8) := by kernel_rfl
end Go.Proofs.Ythkiajighmhdoaa
