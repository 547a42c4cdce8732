/-
  The exceptions that the package makes: not found. No condition.
-/
import Derived.Test.YtpgkbhlgechpmaaBase
import Derived.Test.YtpgkbhlgechpmaaRows
import Derived.WideLaws
namespace Go.Proofs.Ytpgkbhlgechpmaa
open Go.RowKit Go.Qz
set_option linter.unusedVariables false

set_option maxRecDepth 100000 in
theorem exc_new (s : ByteArray) (A : Option Addr) (n c : Nat) (w : World) :
    Calls Try.prog 61 #[.string s, .slice A n c] w fun e w' => e = .returned (.agg #[.string s, .nilIface]) ∧ Below w.heap.size w w' := by
  go_enter Try.func61, Try.ntmps61
  go_wp2_with fail
  exact bodyPost_ret (v := .agg #[.string s, .nilIface]) (by simp [results, Try.results61, go_sem]) rfl ⟨rfl, (Below.refl _ _).alloc (Nat.le_refl _) _⟩

set_option maxRecDepth 100000 in
theorem notFound_new (A : Option Addr) (n c : Nat) (w : World) :
    Calls Try.prog 49 #[.slice A n c] w fun e w' => ∃ v, e = .returned (.iface 104 v) ∧ Below w.heap.size w w' := by
  go_enter Try.func49, Try.ntmps49
  go_wp2_with fail
  refine (exc_new _ _ _ _ _).mono ?_
  rintro e w' ⟨rfl, hb⟩
  go_wp2_with fail
  go_ret
  exact ⟨_, rfl, hb⟩
theorem errIface : Try.prog.underlying 62 = some (.interface (Try.prog.methodsAt 62)) := by kernel_rfl
theorem Try.infoInt : (Try.prog.info? 3).map (fun i => (i.zero, i.size, i.bytes)) = some (some (.int .i64 0), 1, 8) := by kernel_rfl
end Go.Proofs.Ytpgkbhlgechpmaa
