/-
  The writer of Aztec messages, walked: bytes, where it writes nothing. No condition beyond the bounds that the theorem states.
-/
import Derived.Test.YtiielblnmfeapaaGreatDoorAZQ
import Derived.Deep.QuietTactic
import Derived.BigQuiet
import Derived.Outline
namespace Go.Proofs.YtiielblnmfeapaaGreatDoor
open Go.RowKit Go.Qz
set_option linter.unusedVariables false

set_option maxRecDepth 100000 in
set_option maxHeartbeats 1600000 in
theorem bytes_no (base p : Nat) (v : Value) (bs : List Bool) (s : ByteArray) (mode : Nat) (B : Option Addr) (nb c : Nat) (hn : nb = 0 ∨ 3 ≤ mode) (w : World) (h : Wr w base p v bs s mode) :
    Calls Tryz.prog 24 #[.pointer (some ⟨p, 0, none⟩), .slice B nb c] w fun e w' => e = .returned (.tuple #[]) ∧ w = w' := by
  obtain ⟨c0, c1, c2⟩ := h.cells
  clear c0 c1 h
  by_cases h0 : nb = 0
  · subst h0
    go_enter Tryz.func24, Tryz.ntmps24
    go_wp2_with fail
    first | go_end0 | go_ret | exact bodyPost_ret (v := .tuple #[]) (by simp [results, Tryz.results24, go_sem]) rfl ⟨rfl, rfl⟩
    try exact ⟨rfl, rfl⟩
  · have hm : (2 : Int) < (mode : Int) := by omega
    have hn0 : ((nb : Int) == 0) = false := by simp; omega
    clear hn h0
    go_enter Tryz.func24, Tryz.ntmps24
    go_wp2_with fail
    first | go_end0 | go_ret | exact bodyPost_ret (v := .tuple #[]) (by simp [results, Tryz.results24, go_sem]) rfl ⟨rfl, rfl⟩
    try exact ⟨rfl, rfl⟩
end Go.Proofs.YtiielblnmfeapaaGreatDoor
