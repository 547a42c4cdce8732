/-
  Data Matrix placement: where the bits of a word lie, and that they lie within. Plain.
-/
import Derived.Test.YtfnfikmijkeimaaCPM
namespace Go.Qz.RD
set_option linter.unusedVariables false

/-- Rows and columns that the placement of a symbol has. -/
structure Cls (R C : Int) : Prop where
  r0 : 6 ≤ R
  r1 : R ≤ 132
  c0 : 8 ≤ C
  c1 : C ≤ 132
  k : (R % 8 = 0 ∧ C % 8 = 0) ∨ (R % 8 = 2 ∧ C % 8 = 2) ∨ (R % 8 = 4 ∧ C % 8 = 4) ∨ (R % 8 = 6 ∧ C % 8 = 6 ∧ R = C) ∨ (R % 8 = 2 ∧ C % 8 = 0) ∨ (R % 8 = 6 ∧ C % 8 = 4 ∧ R + 10 ≤ C) ∨ (R % 8 = 6 ∧ C % 8 = 0 ∧ R + 10 ≤ C)
/-- Row and column behind the first turn, behind both. -/
def b1 (R r c : Int) : Int := if r < 0 then c + 4 - (R + 4) % 8 else c
def a1 (R r : Int) : Int := if r < 0 then r + R else r
def tr (R C r c : Int) : Int := if b1 R r c < 0 then a1 R r + 4 - (C + 4) % 8 else a1 R r
def tc (R C r c : Int) : Int := if b1 R r c < 0 then b1 R r c + C else b1 R r c
def In (R C r c : Int) : Prop := 0 ≤ tr R C r c ∧ tr R C r c < R ∧ 0 ≤ tc R C r c ∧ tc R C r c < C
/-- Where a word must not lie: its places have been taken. -/
def Anch (R C r c : Int) : Prop := R % 8 = 6 ∧ ((C % 8 ≠ 0 ∧ r = R - 2 ∧ c = 0) ∨ (C % 8 = 6 ∧ r = 0 ∧ c = C - 2) ∨ (C % 8 = 0 ∧ r = 1 ∧ c = C - 1))
def Way (r c : Int) : Prop := (r % 2 = 0 ∧ c % 2 = 0 ∧ (r + c) % 8 = 4) ∨ (r % 2 = 1 ∧ c % 2 = 1 ∧ (r + c) % 8 = 0)
set_option maxHeartbeats 8000000 in
theorem in_of (R C r c : Int) (h : Cls R C) (h0 : 0 ≤ r) (h1 : r < R) (h2 : 0 ≤ c) (h3 : c < C) (hw : Way r c) (hn : ¬ Anch R C r c) (i j : Int) (hij : (i = 2 ∧ j = 2) ∨ (i = 2 ∧ j = 1) ∨ (i = 1 ∧ j = 2) ∨ (i = 1 ∧ j = 1) ∨ (i = 1 ∧ j = 0) ∨ (i = 0 ∧ j = 2) ∨ (i = 0 ∧ j = 1) ∨ (i = 0 ∧ j = 0)) : In R C (r - i) (c - j) := by
  obtain ⟨g0, g1, g2, g3, k⟩ := h
  have hn' : R % 8 = 6 → (C % 8 ≠ 0 → ¬ (r = R - 2 ∧ c = 0)) ∧ (C % 8 = 6 → ¬ (r = 0 ∧ c = C - 2)) ∧ (C % 8 = 0 → ¬ (r = 1 ∧ c = C - 1)) := fun h6 => ⟨fun a b => hn ⟨h6, .inl ⟨a, b.1, b.2⟩⟩, fun a b => hn ⟨h6, .inr (.inl ⟨a, b.1, b.2⟩)⟩, fun a b => hn ⟨h6, .inr (.inr ⟨a, b.1, b.2⟩)⟩⟩
  unfold In tr tc a1 b1
  unfold Way at hw
  rcases hij with ⟨rfl, rfl⟩ | ⟨rfl, rfl⟩ | ⟨rfl, rfl⟩ | ⟨rfl, rfl⟩ | ⟨rfl, rfl⟩ | ⟨rfl, rfl⟩ | ⟨rfl, rfl⟩ | ⟨rfl, rfl⟩ <;> rcases k with k | k | k | k | k | k | k <;> rcases hw with hw | hw <;> omega
/-- The place of a row or column that may be told from the end. -/
def res (n v : Int) : Int := if v < 0 then v + n else v
theorem in_nonneg (R C r c : Int) (h0 : 0 ≤ r) (h1 : r < R) (h2 : 0 ≤ c) (h3 : c < C) : In R C r c ∧ tr R C r c = r ∧ tc R C r c = c := by
  unfold In tr tc a1 b1; omega
end Go.Qz.RD
