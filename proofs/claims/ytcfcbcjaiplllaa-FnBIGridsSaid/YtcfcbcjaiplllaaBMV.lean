/-
  Plain: words that change places, up to one.
-/
import Derived.Test.YtcfcbcjaiplllaaBM
namespace Go.Proofs.Ytcfcbcjaiplllaa
open Go.RowKit Go.Qz
set_option linter.unusedVariables false

def Swp (ws ws' : List Nat) (n : Nat) : Prop :=
  ws'.length = ws.length ∧ ∀ q, q < ws.length → nth ws' q = if q < n ∨ ws.length - 1 - q < n then nth ws (ws.length - 1 - q) else nth ws q
theorem Swp.zero (ws : List Nat) : Swp ws ws 0 := ⟨rfl, fun q hq => by rw [if_neg (by omega)]⟩
theorem Swp.step {ws ws' : List Nat} {n : Nat} (h : Swp ws ws' n) (hn : 2 * n + 1 < ws.length) :
    Swp ws ((ws'.set n (nth ws' (ws.length - 1 - n))).set (ws.length - 1 - n) (nth ws' n)) (n + 1) := by
  have h1 := h.2 n (by omega)
  have h2 := h.2 (ws.length - 1 - n) (by omega)
  rw [if_neg (by omega)] at h1 h2
  refine ⟨by rw [List.length_set, List.length_set]; exact h.1, fun q hq => ?_⟩
  rw [nth_set (by rw [List.length_set, h.1]; omega)]
  by_cases e1 : q = ws.length - 1 - n
  · rw [if_pos e1, if_pos (by omega), h1, e1]
    congr 1; omega
  · rw [if_neg e1, nth_set (by rw [h.1]; omega)]
    by_cases e2 : q = n
    · rw [if_pos e2, if_pos (by omega), h2, e2]
    · rw [if_neg e2, h.2 q hq]
      by_cases e3 : q < n ∨ ws.length - 1 - q < n
      · rw [if_pos e3, if_pos (by omega)]
      · rw [if_neg e3, if_neg (by omega)]
theorem Swp.all {ws ws' : List Nat} {n : Nat} (h : Swp ws ws' n) (hn : ws.length ≤ 2 * n + 1) {q : Nat} (hq : q < ws.length) : nth ws' q = nth ws (ws.length - 1 - q) := by
  rw [h.2 q hq]
  by_cases e : q < n ∨ ws.length - 1 - q < n
  · rw [if_pos e]
  · rw [if_neg e]
    congr 1; omega
end Go.Proofs.Ytcfcbcjaiplllaa
