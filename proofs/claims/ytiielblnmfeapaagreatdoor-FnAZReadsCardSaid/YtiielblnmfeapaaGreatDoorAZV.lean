/-
  AZWrite, walked: what is written are the bits of steps, and their text. No condition beyond the bounds that the theorem states.
-/
import Derived.Test.YtiielblnmfeapaaGreatDoorAZQ
import Derived.StillTailTactics
import Derived.Outline
namespace Go.Proofs.YtiielblnmfeapaaGreatDoor
open Go.RowKit Go.Qz
set_option linter.unusedVariables false

theorem wb_below {w wr w' : World} {E p : Nat} {v : Value} {bits : List Bool} {s : ByteArray} {mode : Nat} (hb : Below E w wr) (h : Wr wr E p v bits s mode) (hp : E ≤ p) (hE : E ≤ wr.heap.size) (hm : Mod (WB p v) wr w') : Below E w w' :=
  hb.trans (hm.below hE (fun k hk => by
    rcases hk with h1 | h1
    · omega
    · exact (h.own.lt k h1).1))
/-- What has been written: a message, so far. -/
def Msg (E : Nat) (wr : World) (p t mode : Nat) (v : Value) (bits : List Bool) (T : List Nat) : Prop :=
  Wr wr E p v bits (strB T) mode ∧ (∃ ms, Runs (0, 0) ms bits T (mode, mode)) ∧ bits.length ≤ 700 * t ∧ T.length ≤ 70 * t ∧ ∀ x, x ∈ T → x < 128

theorem sOf_ok {k c : Nat} (hk : k < 5) (h : sOf k c ≠ []) : (sOf k c).length ≤ 2 ∧ ∀ x, x ∈ sOf k c → x < 128 := by
  have := sOf_lt k hk c h
  exact sOf_small k hk c (by unfold tbLen at this; split at this <;> omega)
theorem wd_le (m : Nat) : wd m ≤ 5 := by unfold wd; split <;> omega

/-- One sign more. -/
theorem Msg.ch {E : Nat} {wr w' : World} {p t mode c : Nat} {v v' : Value} {bits : List Bool} {T : List Nat} (h : Msg E wr p t mode v bits T) (hm : mode < 5) (hs : sOf mode c ≠ []) (hw : Wr w' E p v' (bits ++ bitsOf c (wd mode)) (strB (T ++ sOf mode c)) mode) : Msg E w' p (t + 1) mode v' (bits ++ bitsOf c (wd mode)) (T ++ sOf mode c) := by
  obtain ⟨_, ⟨ms, hr⟩, h1, h2, h3⟩ := h
  obtain ⟨a1, a2⟩ := sOf_ok hm hs
  have hw5 := wd_le mode
  refine ⟨hw, ⟨ms ++ [.ch c], hr.trans (Runs.one (m := .ch c) ⟨hm, hs, rfl⟩)⟩, ?_, ?_, ?_⟩
  · rw [List.length_append, bitsOf_len]; omega
  · rw [List.length_append]; omega
  · intro x hx
    rcases List.mem_append.1 hx with h | h
    · exact h3 x h
    · exact a2 x h
/-- Another mode. -/
theorem Msg.lat {E : Nat} {wr w' : World} {p t mode c m2 : Nat} {v v' : Value} {bits : List Bool} {T : List Nat} (h : Msg E wr p t mode v bits T) (hl : latTo mode c = some m2) (hw : Wr w' E p v' (bits ++ bitsOf c (wd mode)) (strB T) m2) : Msg E w' p (t + 1) m2 v' (bits ++ bitsOf c (wd mode)) T := by
  obtain ⟨_, ⟨ms, hr⟩, h1, h2, h3⟩ := h
  have hw5 := wd_le mode
  refine ⟨hw, ⟨ms ++ [.lat c], ?_⟩, ?_, by omega, h3⟩
  · have := hr.trans (Runs.one (m := .lat c) ⟨m2, hl, rfl⟩)
    rw [show T ++ tx mode (.lat c) = T by show T ++ [] = T; simp] at this
    exact this
  · rw [List.length_append, bitsOf_len]; omega
/-- A sign of another mode between others. -/
theorem Msg.shch {E : Nat} {wr w' : World} {p t mode c0 m2 c : Nat} {v v' : Value} {bits : List Bool} {T : List Nat} (h : Msg E wr p t mode v bits T) (hm : mode < 5) (hm2 : m2 < 5) (hl : shTo mode c0 = some m2) (hs : sOf m2 c ≠ []) (hw : Wr w' E p v' (bits ++ bitsOf c0 (wd mode) ++ bitsOf c (wd m2)) (strB (T ++ sOf m2 c)) mode) : Msg E w' p (t + 1) mode v' (bits ++ bitsOf c0 (wd mode) ++ bitsOf c (wd m2)) (T ++ sOf m2 c) := by
  obtain ⟨_, ⟨ms, hr⟩, h1, h2, h3⟩ := h
  obtain ⟨a1, a2⟩ := sOf_ok hm2 hs
  have hw5 := wd_le mode
  have hw6 := wd_le m2
  refine ⟨hw, ⟨ms ++ [.sh c0, .ch c], ?_⟩, ?_, ?_, ?_⟩
  · have := hr.trans (Runs.cons (m := .sh c0) ⟨m2, hl, rfl⟩ (Runs.one (m := .ch c) (s1 := (mode, mode)) ⟨hm2, hs, rfl⟩))
    rw [List.append_assoc]
    exact this
  · rw [List.length_append, List.length_append, bitsOf_len, bitsOf_len]; omega
  · rw [List.length_append]; omega
  · intro x hx
    rcases List.mem_append.1 hx with h | h
    · exact h3 x h
    · exact a2 x h
/-- Some bytes as they are. -/
theorem Msg.bytes {E : Nat} {wr w' : World} {p t mode : Nat} {v v' : Value} {bits : List Bool} {T l : List Nat} (h : Msg E wr p t mode v bits T) (hm : mode ≤ 2) (hl0 : 0 < l.length) (hl : l.length ≤ 69) (hx : ∀ x, x ∈ l → x < 128) (hw : Wr w' E p v' (bits ++ (bitsOf 31 5 ++ (hdr l.length ++ l.flatMap (bitsOf · 8)))) (strB (T ++ l)) mode) : Msg E w' p (t + 1) mode v' (bits ++ (bitsOf 31 5 ++ (hdr l.length ++ l.flatMap (bitsOf · 8)))) (T ++ l) := by
  obtain ⟨_, ⟨ms, hr⟩, h1, h2, h3⟩ := h
  have hsh : shTo mode 31 = some 5 := by
    have : mode = 0 ∨ mode = 1 ∨ mode = 2 := by omega
    rcases this with rfl | rfl | rfl <;> rfl
  have hw5 : wd mode = 5 := by unfold wd; rw [if_neg (by omega)]
  refine ⟨hw, ⟨ms ++ [.sh 31, .bytes l], ?_⟩, ?_, ?_, ?_⟩
  · have := hr.trans (Runs.cons (m := .sh 31) ⟨5, hsh, rfl⟩ (Runs.one (m := .bytes l) (s1 := (mode, mode)) ⟨rfl, ⟨hl0, by omega, hx⟩, rfl⟩))
    rw [show en mode (.sh 31) = bitsOf 31 5 by show bitsOf 31 (wd mode) = _; rw [hw5]] at this
    exact this
  · rw [List.length_append, List.length_append, List.length_append, bitsOf_len, hdr_len, flat_sizeQ]; split <;> omega
  · rw [List.length_append]; omega
  · intro x hx'
    rcases List.mem_append.1 hx' with h | h
    · exact h3 x h
    · exact hx x h
theorem Msg.more {E : Nat} {wr : World} {p t mode : Nat} {v : Value} {bits : List Bool} {T : List Nat} (h : Msg E wr p t mode v bits T) : Msg E wr p (t + 1) mode v bits T := by
  obtain ⟨h0, h1, h2, h3, h4⟩ := h
  exact ⟨h0, h1, by omega, by omega, h4⟩
end Go.Proofs.YtiielblnmfeapaaGreatDoor
