/-
  GetMatrix of a whole picture, walked. No condition beyond the bounds that the theorem states.
-/
import Derived.Test.YthgnmcofclndlaaPXE
namespace Go.Proofs.Ythgnmcofclndlaa
open Go.RowKit Go.Qz
set_option linter.unusedVariables false

set_option maxRecDepth 100000 in
set_option maxHeartbeats 1600000 in
theorem matrix_whole (p : Nat) (A : Option Addr) (n c W H l t : Nat) (w : World) (hs : SrcIs w p A n c W H l t W H) :
    Calls Try.prog 57 #[.pointer (some ⟨p, 0, none⟩)] w fun e w' => e = .returned (.slice A n c) ∧ w = w' := by
  have a0 := hs.cell? 0
  have a1 := hs.cell? 1
  have a2 := hs.cell? 2
  have a3 := hs.cell? 3
  have a4 := hs.cell? 4
  simp only [List.getElem?_cons_zero, List.getElem?_cons_succ] at a0 a1 a2 a3 a4
  have HW := Lib.hid (getWidth p 0 W w a0)
  have HH := Lib.hid (getHeight p 0 H w a1)
  have q1 : ((W : Int) == (W : Int)) = true := by simp
  have q2 : ((H : Int) == (H : Int)) = true := by simp
  clear hs
  go_enter Try.func57, Try.ntmps57
  go_wp2_with fail
  refine HW.out.mono ?_
  rintro e w1 ⟨rfl, rfl⟩
  go_wp2_with fail
  refine HH.out.mono ?_
  rintro e w1 ⟨rfl, rfl⟩
  go_wp2_with fail
  go_ret
  exact ⟨rfl, rfl⟩
end Go.Proofs.Ythgnmcofclndlaa
