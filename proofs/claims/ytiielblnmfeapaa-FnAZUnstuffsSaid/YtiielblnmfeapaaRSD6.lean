
/-
  PolyOver, RSZero, rsIn, walked. No condition beyond the bounds that each theorem states.
-/
import Derived.Test.YtiielblnmfeapaaRSD4
import Derived.Test.YtiielblnmfeapaaRSQ
import Derived.BigQuiet
namespace Go.Proofs.Ytiielblnmfeapaa
open Go.RowKit Go.Qz Go.Qz.RS
set_option linter.unusedVariables false

theorem fcells {w : World} {H : Nat} {F : Fld} (h : Arr w 31 H [.int .i64 F.prim, .int .i64 F.size, .int .i64 F.base]) :
    w.cell? ⟨H, 0, none⟩ = some (.int .i64 F.prim) ∧ w.cell? ⟨H, 1, none⟩ = some (.int .i64 F.size) ∧ w.cell? ⟨H, 2, none⟩ = some (.int .i64 F.base) := by
  have d0 := h.cell? 0
  have d1 := h.cell? 1
  have d2 := h.cell? 2
  simp only [List.getElem?_cons_zero, List.getElem?_cons_succ] at d0 d1 d2
  exact ⟨d0, d1, d2⟩

set_option maxRecDepth 100000 in
set_option maxHeartbeats 1600000 in
theorem rsZero (l : List Nat) (hl : l ≠ []) (hn : l.length < 1000000) (A : Option Addr) (c : Nat) (z : Bool) (hz : z = decide (l = [0])) (w : World) (h : Rd w A l.length (fun j => .int .i64 (nth l j : Nat))) :
    Calls Try.prog 46 #[.slice A l.length c] w fun e w' => e = .returned (.bool z) ∧ w = w' := by
  have hp := List.length_pos_iff.2 hl
  obtain ⟨b, off, rfl, hb, hc⟩ := h hp
  have c0 := hc 0 hp
  rw [Nat.add_zero] at c0
  dsimp only at c0
  clear h hc
  by_cases h1 : l.length = 1
  · by_cases h0 : nth l 0 = 0
    · have hz2 : z = true := by
        rw [hz]; simp only [decide_eq_true_eq]
        apply List.ext_getElem (by simpa using h1)
        intro i hi1 hi2
        have : i = 0 := by omega
        subst this
        rw [← nth_eq hi1, h0]; rfl
      subst hz2
      clear hz
      rw [h0] at c0
      rw [h1]
      clear h1 h0 hp hn
      go_enter Try.func46, Try.ntmps46
      go_wp2_with fail
      go_ret
      exact ⟨rfl, rfl⟩
    · have hz2 : z = false := by
        rw [hz]; simp only [decide_eq_false_iff_not]
        intro e; rw [e] at h0; exact h0 rfl
      subst hz2
      clear hz
      have h2 : (((nth l 0 : Nat) : Int) == 0) = false := by simpa using h0
      rw [h1]
      clear h1 h0 hp hn
      go_enter Try.func46, Try.ntmps46
      go_wp2_with fail
      go_ret
      exact ⟨rfl, rfl⟩
  · have hz2 : z = false := by
      rw [hz]; simp only [decide_eq_false_iff_not]
      intro e; rw [e] at h1; exact h1 rfl
    subst hz2
    clear hz
    have h2 : ((l.length : Int) == 1) = false := by simp; omega
    clear h1
    go_enter Try.func46, Try.ntmps46
    go_wp2_with fail
    go_ret
    exact ⟨rfl, rfl⟩

end Go.Proofs.Ytiielblnmfeapaa
