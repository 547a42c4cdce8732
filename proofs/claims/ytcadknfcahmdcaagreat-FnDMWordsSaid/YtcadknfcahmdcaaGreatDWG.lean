/-
  math.Ceil of a count, walked. No condition beyond the bounds that each theorem states.
-/
import Derived.Test.YtcadknfcahmdcaaGreatDWF
import Derived.Test.YtcadknfcahmdcaaGreatNF
namespace Go.Proofs.YtcadknfcahmdcaaGreat
open Go.RowKit Go.Qz Go.Qz.DF
set_option linter.unusedVariables false

theorem archN : Extern.findNext Tryz.f118 = none := by kernel_rfl
theorem archX : Extern.find Tryz.f118 = some (Extern.MathFloor.toIntegral "math.archCeil" .up) := by kernel_rfl
theorem archB : Tryz.f118.body.isNone = true := by kernel_rfl
theorem arch_sem (z : Nat) (h : OkW z) (W : World) : (Extern.MathFloor.toIntegral "math.archCeil" .up #[.float .f64 z]).run Tryz.prog W = .ok (.float .f64 (ceilW z)) W := by
  have hi := integral_ok h
  have hd : FloatKind.f64.decode z = Ieee.double.read z := rfl
  cases hr : Ieee.double.read z with
  | nan s t => rw [hr] at hi; cases hi
  | infinity s => rw [hr] at hi; cases hi
  | number s m i =>
    rw [hr] at hi hd
    have e : Extern.MathFloor.toIntegral "math.archCeil" .up #[.float .f64 z] = pure (.float .f64 (FloatKind.f64.encode ((Ieee.Datum.number s m i).integral .up))) := by
      show Extern.MathFloor.toIntegral.match_1 (motive := fun _ => Sem Value) (FloatKind.f64.decode z) _ _ = _
      rw [hd]
    rw [e, hi]
    rfl
theorem archM : (Tryz.f118.name == "runtime.NumGoroutine") = false := by kernel_rfl
theorem archO : Tryz.f118.body = none := by simpa using archB
theorem arch_call (z : Nat) (h : OkW z) (W : World) : (callFunc 118 #[.float .f64 z]).run Tryz.prog W = .ok (.value (.float .f64 (ceilW z))) W := by
  have hs := arch_sem z h W
  have hm := archM
  have hm2 : ¬ (Tryz.f118.name = "runtime.NumGoroutine") := by simpa using hm
  simp [callFunc, go_sem, archO, archN, archX, hm2, hs]
set_option maxRecDepth 100000 in
theorem ceil_walk (z : Nat) (h : OkW z) (w : World) : Calls Tryz.prog 111 #[.float .f64 z] w fun e w' => e = .returned (.float .f64 (ceilW z)) ∧ w = w' := by
  have hs := fun W => arch_call z h W
  clear h
  go_enter Tryz.func111, Tryz.ntmps111
  go_wp2_with fail
  go_ret
  exact ⟨rfl, rfl⟩
end Go.Proofs.YtcadknfcahmdcaaGreat
