/-
  BitSource, walked: Available. No condition beyond the bounds that the theorem states.
-/
import Derived.Test.YthkiajighmhdoaaBIS
import Derived.Test.YthkiajighmhdoaaBIR
import Derived.BigRegion
import Derived.Deep.RegionLaw
import Derived.Deep.QuietTactic
import Derived.BigQuiet
namespace Go.Proofs.Ythkiajighmhdoaa
open Go.RowKit Go.Qz Go.Qz.BS
set_option linter.unusedVariables false

/-- A source of bits, at a byte and a bit of it. -/
def SrcAt (w : World) (p : Nat) (A : Option Addr) (n c bo o : Nat) : Prop := Arr w 146 p [.slice A n c, .int .i64 bo, .int .i64 o]
theorem SrcAt.cells {w : World} {p : Nat} {A : Option Addr} {n c bo o : Nat} (h : SrcAt w p A n c bo o) : w.cell? ⟨p, 0, none⟩ = some (.slice A n c) ∧ w.cell? ⟨p, 1, none⟩ = some (.int .i64 bo) ∧ w.cell? ⟨p, 2, none⟩ = some (.int .i64 o) := by
  unfold SrcAt at h
  have d0 := h.cell? 0
  have d1 := h.cell? 1
  have d2 := h.cell? 2
  simp only [List.getElem?_cons_zero, List.getElem?_cons_succ] at d0 d1 d2
  exact ⟨d0, d1, d2⟩

set_option maxRecDepth 100000 in
set_option maxHeartbeats 1600000 in
theorem available (p : Nat) (A : Option Addr) (n c bo o m : Nat) (hm : m + o + 8 * bo = 8 * n) (hn : n < 1000000) (w : World) (h : SrcAt w p A n c bo o) :
    Calls Try.prog 52 #[.pointer (some ⟨p, 0, none⟩)] w fun e w' => e = .returned (.int .i64 m) ∧ ∃ k, w' = w.drewN k := by
  obtain ⟨c0, c1, c2⟩ := h.cells
  have hw1 : IntKind.i64.wrap ((n : Int) - (bo : Int)) = (n : Int) - (bo : Int) := by rw [IntKind.wrap_i64]; omega
  have hw2 : IntKind.i64.wrap (8 * ((n : Int) - (bo : Int))) = 8 * ((n : Int) - (bo : Int)) := by rw [IntKind.wrap_i64]; omega
  have hw3 : IntKind.i64.wrap (8 * ((n : Int) - (bo : Int)) - (o : Int)) = (m : Int) := by rw [IntKind.wrap_i64]; omega
  clear h hm
  go_enter Try.func52, Try.ntmps52
  go_wp2_with fail
  try go_quiet (fail)
  go_wp2_with fail
  go_ret
  exact ⟨rfl, _, rfl⟩
end Go.Proofs.Ythkiajighmhdoaa
