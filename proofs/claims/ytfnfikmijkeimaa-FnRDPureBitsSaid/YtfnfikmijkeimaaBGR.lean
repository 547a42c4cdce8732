
/-
  Rows of bools: BIRows, BISameBits, ParseBoolMapToBitMatrix, walked. No condition beyond the bounds that each theorem states.
-/
import Derived.Test.YtfnfikmijkeimaaBM
import Derived.BigRegion
namespace Go.Proofs.Ytfnfikmijkeimaa
open Go.RowKit Go.Qz
set_option linter.unusedVariables false

/-- A slice of H rows of W bools each, that reads as f. -/
def Rows2 (w : World) (A : Option Addr) (H W : Nat) (f : Nat → Nat → Bool) : Prop :=
  0 < H → ∃ b off, A = some ⟨b, off, none⟩ ∧ b < w.heap.size ∧ ∀ r, r < H → ∃ B C, w.cell? ⟨b, off + r, none⟩ = some (.slice B W C) ∧ Rd w B W (fun c => .bool (f r c))
theorem Rows2.below {w w' : World} {A : Option Addr} {H W : Nat} {f : Nat → Nat → Bool} (h : Rows2 w A H W f) (hb : Below w.heap.size w w') : Rows2 w' A H W f := fun h0 => by
  obtain ⟨b, off, e, hlt, hr⟩ := h h0
  refine ⟨b, off, e, Nat.lt_of_lt_of_le hlt hb.size, fun r hrl => ?_⟩
  obtain ⟨B, C, h1, h2⟩ := hr r hrl
  exact ⟨B, C, (hb.cell (p := ⟨b, off + r, none⟩) hlt).trans h1, h2.below hb⟩

/-- The bit at a place, of bits that go on and on. -/
def fitB (z : Nat → Bool) (n W r c : Nat) : Bool := decide (0 < n) && z ((r * W + c) % n)

theorem Try.infoBools : (Try.prog.info? 40).map (fun i => (i.zero, i.size, i.bytes)) = some (some (.slice none 0 0), 1, 24) := by kernel_rfl

/-- The headers of rows, so far: row r lies in block R + 1 + r. -/
def hdrs (R W H k : Nat) : List Value := (List.range H).map fun r => if r < k then Value.slice (some ⟨R + 1 + r, 0, none⟩) W W else .slice none 0 0
theorem hdrs_get (R W H k r : Nat) (hr : r < H) : (hdrs R W H k)[r]? = some (if r < k then Value.slice (some ⟨R + 1 + r, 0, none⟩) W W else .slice none 0 0) := by
  simp [hdrs, hr]
theorem hdrs_set (R W H k : Nat) : (hdrs R W H k).set k (.slice (some ⟨R + 1 + k, 0, none⟩) W W) = hdrs R W H (k + 1) := by
  apply List.ext_getElem (by simp [hdrs])
  intro j h1 h2
  simp only [hdrs, List.getElem_set, List.getElem_map, List.getElem_range]
  by_cases e : k = j
  · subst e; rw [if_pos rfl, if_pos (by omega)]
  · rw [if_neg e]
    by_cases h : j < k
    · rw [if_pos h, if_pos (by omega)]
    · rw [if_neg h, if_neg (by omega)]
theorem hdrs_zero (R W H : Nat) : (hdrs R W H 0) = List.replicate H (.slice none 0 0) := by
  apply List.ext_getElem (by simp [hdrs])
  intro j h1 h2
  simp [hdrs]

theorem rem_run (a b c : Int) (h0 : ¬ b = 0) (h : a.tmod b = c) (W : World) : (binOp .rem 3 (.int .i64 a) (.int .i64 b)).run Try.prog W = .ok (.int .i64 c) W := by
  subst h
  show ((Op.intDiv .rem .i64 a b).run Try.prog W) = _
  unfold Op.intDiv
  simp [h0, go_sem]
end Go.Proofs.Ytfnfikmijkeimaa
