/-
  Plain facts on the marks of the corners of an Aztec symbol: sides that are told in another order have the upper one so many places later. No program in sight.
-/
import Derived.KernelRfl
namespace Go.Qz.AZ
set_option linter.unusedVariables false

/-- How many bits are 1. -/
def pc : Nat → Nat → Nat
  | 0, _ => 0
  | n + 1, x => x % 2 + pc n (x / 2)
/-- The marks of corners, in the four turns. -/
def mk4 (s : Nat) : Nat := if s = 0 then 3808 else if s = 1 then 476 else if s = 2 then 2107 else 1799
/-- The first turn that fits, from one on; 4: none. -/
def rotFrom (c : Nat) : Nat → Nat → Nat
  | 0, s => 4
  | f + 1, s => if pc 16 (c ^^^ mk4 s) ≤ 2 then s else rotFrom c f (s + 1)
/-- The marks that stand on four sides. -/
def cor (a b c d : Nat) : Nat := ((a * 8 + b) * 8 + c) * 8 + d
def turned (c : Nat) : Nat := c % 2 * 2048 + c / 2
def rot (a b c d : Nat) : Nat := rotFrom (turned (cor a b c d)) 4 0
def sd (a b c d i : Nat) : Nat := if i % 4 = 0 then a else if i % 4 = 1 then b else if i % 4 = 2 then c else d
/-- Is a module of a corner dark. -/
def mark (c k : Nat) : Bool := if c = 0 then true else if c = 1 then decide (0 < k) else if c = 2 then decide (k = 0) else false
/-- A module at a corner, as it stands. -/
def mod3 (a b c d up cn k : Nat) : Bool := if k = 0 then decide (sd a b c d (up + cn + 3) % 2 = 1) else if k = 1 then decide (sd a b c d (up + cn) / 4 % 2 = 1) else decide (sd a b c d (up + cn) / 2 % 2 = 1)
/-- How many modules of a corner are others, of the first ones. -/
def wrongK (a b c d up cn : Nat) : Nat → Nat
  | 0 => 0
  | k + 1 => wrongK a b c d up cn k + if mod3 a b c d up cn k = mark cn k then 0 else 1
/-- The same of the first corners. -/
def wrongC (a b c d up : Nat) : Nat → Nat
  | 0 => 0
  | n + 1 => wrongC a b c d up n + wrongK a b c d up n 3
def chk1 (a b c d : Nat) : Bool := if rot a b c d = 4 then rot d a b c == 4 && (decide (2 < wrongC a b c d 0 4) && decide (2 < wrongC a b c d 1 4) && decide (2 < wrongC a b c d 2 4) && decide (2 < wrongC a b c d 3 4)) else decide (rot a b c d < 4) && rot d a b c == (rot a b c d + 1) % 4
def chkAll : Bool := (List.range 8).all fun a => (List.range 8).all fun b => (List.range 8).all fun c => (List.range 8).all fun d => chk1 a b c d
set_option maxRecDepth 1000000 in
theorem chkAll_true : chkAll = true := by kernel_rfl
theorem chk1_true {a b c d : Nat} (ha : a < 8) (hb : b < 8) (hc : c < 8) (hd : d < 8) : chk1 a b c d = true := by
  have h := chkAll_true
  simp only [chkAll, List.all_eq_true, List.mem_range] at h
  exact h a ha b hb c hc d hd
theorem rot_le {a b c d : Nat} (ha : a < 8) (hb : b < 8) (hc : c < 8) (hd : d < 8) : rot a b c d ≤ 4 := by
  have h := chk1_true ha hb hc hd
  unfold chk1 at h
  split at h
  · omega
  · simp only [Bool.and_eq_true, decide_eq_true_eq] at h; omega
theorem rot_next {a b c d : Nat} (ha : a < 8) (hb : b < 8) (hc : c < 8) (hd : d < 8) : rot d a b c = if rot a b c d = 4 then 4 else (rot a b c d + 1) % 4 := by
  have h := chk1_true ha hb hc hd
  unfold chk1 at h
  split at h
  · rename_i h0
    simp only [Bool.and_eq_true, beq_iff_eq] at h
    rw [h0, if_pos rfl]; exact h.1
  · rename_i h0
    simp only [Bool.and_eq_true, beq_iff_eq] at h
    rw [if_neg h0]; exact h.2
theorem rot_wrong {a b c d : Nat} (ha : a < 8) (hb : b < 8) (hc : c < 8) (hd : d < 8) (h4 : rot a b c d = 4) (up : Nat) (hu : up < 4) : 2 < wrongC a b c d up 4 := by
  have h := chk1_true ha hb hc hd
  unfold chk1 at h
  rw [if_pos h4] at h
  simp only [Bool.and_eq_true, decide_eq_true_eq] at h
  obtain ⟨_, ⟨⟨h0, h1⟩, h2⟩, h3⟩ := h
  have : up = 0 ∨ up = 1 ∨ up = 2 ∨ up = 3 := by omega
  rcases this with rfl | rfl | rfl | rfl
  · exact h0
  · exact h1
  · exact h2
  · exact h3
/-- Sides told k places later. -/
theorem rot_by {a b c d k : Nat} (ha : a < 8) (hb : b < 8) (hc : c < 8) (hd : d < 8) (hk : k < 4) :
    rot (sd a b c d (4 - k)) (sd a b c d (5 - k)) (sd a b c d (6 - k)) (sd a b c d (7 - k)) = if rot a b c d = 4 then 4 else (rot a b c d + k) % 4 := by
  have e1 := rot_next ha hb hc hd
  have e2 := rot_next hd ha hb hc
  have e3 := rot_next hc hd ha hb
  have hl := rot_le ha hb hc hd
  have hk' : k = 0 ∨ k = 1 ∨ k = 2 ∨ k = 3 := by omega
  by_cases h4 : rot a b c d = 4
  · rw [if_pos h4] at e1 ⊢
    rw [if_pos e1] at e2
    rw [if_pos e2] at e3
    rcases hk' with rfl | rfl | rfl | rfl
    · exact h4
    · exact e1
    · exact e2
    · exact e3
  · rw [if_neg h4] at e1 ⊢
    rw [if_neg (by omega)] at e2
    rw [if_neg (by omega)] at e3
    rcases hk' with rfl | rfl | rfl | rfl
    · show rot a b c d = _
      omega
    · exact e1
    · show rot c d a b = _
      omega
    · show rot b c d a = _
      omega
/-- The marks of a side. -/
def tk (len x : Nat) : Nat := x / 2 ^ (len - 2) * 2 + x % 2
end Go.Qz.AZ
