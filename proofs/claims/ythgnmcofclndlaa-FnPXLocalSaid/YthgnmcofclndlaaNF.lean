/-
  The exceptions that the package makes: not found. No condition.
-/
import Derived.Test.YthgnmcofclndlaaBase
import Derived.Test.YthgnmcofclndlaaRows
import Derived.WideLaws
namespace Go.Proofs.Ythgnmcofclndlaa
open Go.RowKit Go.Qz
set_option linter.unusedVariables false

set_option maxRecDepth 100000 in
theorem exc_new (s : ByteArray) (A : Option Addr) (n c : Nat) (w : World) :
    Calls Try.prog 78 #[.string s, .slice A n c] w fun e w' => e = .returned (.agg #[.string s, .nilIface]) ∧ Below w.heap.size w w' := by
  go_enter Try.func78, Try.ntmps78
  go_wp2_with fail
  exact bodyPost_ret (v := .agg #[.string s, .nilIface]) (by simp [results, Try.results78, go_sem]) rfl ⟨rfl, (Below.refl _ _).alloc (Nat.le_refl _) _⟩

set_option maxRecDepth 100000 in
theorem notFound_new (A : Option Addr) (n c : Nat) (w : World) :
    Calls Try.prog 77 #[.slice A n c] w fun e w' => ∃ v, e = .returned (.iface 128 v) ∧ Below w.heap.size w w' := by
  go_enter Try.func77, Try.ntmps77
  go_wp2_with fail
  refine (exc_new _ _ _ _ _).mono ?_
  rintro e w' ⟨rfl, hb⟩
  go_wp2_with fail
  go_ret
  exact ⟨_, rfl, hb⟩
theorem errIface : Try.prog.underlying 51 = some (.interface (Try.prog.methodsAt 51)) := by kernel_rfl
theorem Try.infoInt : (Try.prog.info? 3).map (fun i => (i.zero, i.size, i.bytes)) = some (some (.int .i64 0), 1, 8) := by kernel_rfl
end Go.Proofs.Ythgnmcofclndlaa
