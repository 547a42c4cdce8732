/-
  PXSign, walked. No condition beyond the bounds that the theorem states.
-/
import Derived.Test.YthgnmcofclndlaaPXE
namespace Go.Proofs.Ythgnmcofclndlaa
open Go.RowKit Go.Qz
set_option linter.unusedVariables false

/-- The sign of a gray. -/
def sgn (x : Nat) : Nat := if x < 64 then 35 else if x < 128 then 43 else if x < 192 then 46 else 32
set_option maxRecDepth 100000 in
set_option maxHeartbeats 1600000 in
theorem pxSign (x : Nat) (hx : x < 256) (w : World) :
    Calls Try.prog 11 #[.int .u8 x] w fun e w' => e = .returned (.string ⟨#[UInt8.ofNat (sgn x)]⟩) ∧ w = w' := by
  obtain ⟨q, hq⟩ : ∃ q, q = x / 64 := ⟨_, rfl⟩
  have e1 : (x : Int) / 64 = (q : Int) := by omega
  have e2 : (x : Int).tdiv 64 = (q : Int) := by rw [Int.tdiv_eq_ediv_of_nonneg (by omega)]; exact e1
  have h : q = 0 ∨ q = 1 ∨ q = 2 ∨ q = 3 := by omega
  have HS : Hid (sgn x = if q = 0 then 35 else if q = 1 then 43 else if q = 2 then 46 else 32) := Lib.hid (by
    unfold sgn
    rcases h with rfl | rfl | rfl | rfl
    · rw [if_pos (by omega)]; rfl
    · rw [if_neg (by omega), if_pos (by omega)]; rfl
    · rw [if_neg (by omega), if_neg (by omega), if_pos (by omega)]; rfl
    · rw [if_neg (by omega), if_neg (by omega), if_neg (by omega)]; rfl)
  clear hq
  rcases h with rfl | rfl | rfl | rfl
  · go_enter Try.func11, Try.ntmps11
    go_wp2_with fail
    go_ret
    exact ⟨by rw [HS.out]; rfl, rfl⟩
  · go_enter Try.func11, Try.ntmps11
    go_wp2_with fail
    go_ret
    exact ⟨by rw [HS.out]; rfl, rfl⟩
  · go_enter Try.func11, Try.ntmps11
    go_wp2_with fail
    go_ret
    exact ⟨by rw [HS.out]; rfl, rfl⟩
  · go_enter Try.func11, Try.ntmps11
    go_wp2_with fail
    go_ret
    exact ⟨by rw [HS.out]; rfl, rfl⟩
end Go.Proofs.Ythgnmcofclndlaa
