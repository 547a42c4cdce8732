/-
  Plain numbers of the versions: words, blocks, centers. No condition beyond the bounds that each theorem states.
-/
import Derived.Test.YthkiajighmhdoaaBase
namespace Go.Qz.QW
open Go.Qz
set_option linter.unusedVariables false

/-- How many words of correction a block has, version by version. -/
def ecL (l : Nat) : List Nat :=
  if l = 1 then [7, 10, 15, 20, 26, 18, 20, 24, 30, 18, 20, 24, 26, 30, 22, 24, 28, 30, 28, 28, 28, 28, 30, 30, 26, 28, 30, 30, 30, 30, 30, 30, 30, 30, 30, 30, 30, 30, 30, 30]
  else if l = 0 then [10, 16, 26, 18, 24, 16, 18, 22, 22, 26, 30, 22, 22, 24, 24, 28, 28, 26, 26, 26, 26, 28, 28, 28, 28, 28, 28, 28, 28, 28, 28, 28, 28, 28, 28, 28, 28, 28, 28, 28]
  else if l = 3 then [13, 22, 18, 26, 18, 24, 18, 22, 20, 24, 28, 26, 24, 20, 30, 24, 28, 28, 26, 30, 28, 30, 30, 30, 30, 28, 30, 30, 30, 30, 30, 30, 30, 30, 30, 30, 30, 30, 30, 30]
  else [17, 28, 22, 16, 22, 28, 26, 26, 24, 28, 24, 28, 22, 24, 24, 30, 28, 28, 26, 28, 30, 24, 30, 30, 30, 30, 30, 30, 30, 30, 30, 30, 30, 30, 30, 30, 30, 30, 30, 30]
/-- How many blocks there are. -/
def nbL (l : Nat) : List Nat :=
  if l = 1 then [1, 1, 1, 1, 1, 2, 2, 2, 2, 4, 4, 4, 4, 4, 6, 6, 6, 6, 7, 8, 8, 9, 9, 10, 12, 12, 12, 13, 14, 15, 16, 17, 18, 19, 19, 20, 21, 22, 24, 25]
  else if l = 0 then [1, 1, 1, 2, 2, 4, 4, 4, 5, 5, 5, 8, 9, 9, 10, 10, 11, 13, 14, 16, 17, 17, 18, 20, 21, 23, 25, 26, 28, 29, 31, 33, 35, 37, 38, 40, 43, 45, 47, 49]
  else if l = 3 then [1, 1, 2, 2, 4, 4, 6, 6, 8, 8, 8, 10, 12, 16, 12, 17, 16, 18, 21, 20, 23, 23, 25, 27, 29, 34, 34, 35, 38, 40, 43, 45, 48, 51, 53, 56, 59, 62, 65, 68]
  else [1, 1, 2, 4, 4, 4, 5, 6, 8, 8, 11, 11, 16, 16, 18, 16, 19, 21, 25, 25, 25, 34, 30, 32, 35, 37, 40, 42, 45, 48, 51, 54, 57, 60, 63, 66, 70, 74, 77, 81]
def ecOf (n l : Nat) : Nat := nth (ecL l) (n - 1)
def nbOf (n l : Nat) : Nat := nth (nbL l) (n - 1)
def dimOf (n : Nat) : Nat := 17 + 4 * n
def manyOf (n : Nat) : Nat := if n = 1 then 0 else n / 7 + 2
def roomOf (n : Nat) : Nat := dimOf n * dimOf n - 3 * 64 - 2 * (dimOf n - 16) - 31 - (if 7 ≤ n then 36 else 0) - (if 0 < manyOf n then 25 * (manyOf n * manyOf n - 3) - 10 * (manyOf n - 2) else 0)
def totOf (n : Nat) : Nat := roomOf n / 8
def stepOf (n : Nat) : Nat := if n = 32 then 26 else (n * 4 + manyOf n * 2 + 1) / (manyOf n * 2 - 2) * 2
/-- The middles of alignment patterns. -/
def cenOf (n : Nat) : List Nat := (List.range (manyOf n)).map fun i => if i = 0 then 6 else dimOf n - 7 - stepOf n * (manyOf n - 1 - i)
/-- The level that stands at a place. -/
def lvAt (i : Nat) : Nat := if i = 0 then 1 else if i = 1 then 0 else if i = 2 then 3 else 2
def atLv (l : Nat) : Nat := if l = 1 then 0 else if l = 0 then 1 else if l = 3 then 2 else 3
/-- How many blocks are one word longer; how many data words the others have. -/
def longOf (n l : Nat) : Nat := totOf n % nbOf n l
def shOf (n l : Nat) : Nat := totOf n / nbOf n l - ecOf n l
/-- Groups of blocks: how many, how many data words. -/
def grOf (n l : Nat) : List (Nat × Nat) := if longOf n l = 0 then [(nbOf n l, shOf n l)] else [(nbOf n l - longOf n l, shOf n l), (longOf n l, shOf n l + 1)]
/-- What is checked of all versions and levels by reckoning. -/
def fineAt (n l : Nat) : Bool :=
  decide (0 < nbOf n l) && (decide (nbOf n l ≤ 81) && (decide (7 ≤ ecOf n l) && (decide (ecOf n l ≤ 30) && (decide (0 < shOf n l) && (decide (shOf n l ≤ 123) && (decide (longOf n l < nbOf n l) && (decide (nbOf n l * (shOf n l + ecOf n l) + longOf n l = totOf n) && decide (totOf n ≤ 3706))))))))
theorem fine_all : ((List.range 40).all fun n => (List.range 4).all fun l => fineAt (n + 1) l) = true := by decide +kernel
structure Fine (n l : Nat) : Prop where
  nb0 : 0 < nbOf n l
  nb1 : nbOf n l ≤ 81
  ec0 : 7 ≤ ecOf n l
  ec1 : ecOf n l ≤ 30
  sh0 : 0 < shOf n l
  sh1 : shOf n l ≤ 123
  lg : longOf n l < nbOf n l
  tot : nbOf n l * (shOf n l + ecOf n l) + longOf n l = totOf n
  tot1 : totOf n ≤ 3706
theorem fine (n l : Nat) (h1 : 1 ≤ n) (h2 : n ≤ 40) (hl : l < 4) : Fine n l := by
  have h := fine_all
  rw [List.all_eq_true] at h
  have h := h (n - 1) (by simp; omega)
  rw [List.all_eq_true] at h
  have h := h l (by simp; omega)
  rw [show n - 1 + 1 = n by omega] at h
  simp only [fineAt, Bool.and_eq_true, decide_eq_true_iff] at h
  obtain ⟨a, b, c, d, e, f, g, i, j⟩ := h
  exact ⟨a, b, c, d, e, f, g, i, j⟩
theorem lv_at (l : Nat) (h : l < 4) : lvAt (atLv l) = l ∧ atLv l < 4 := by
  have : l = 0 ∨ l = 1 ∨ l = 2 ∨ l = 3 := by omega
  rcases this with rfl | rfl | rfl | rfl <;> decide
end Go.Qz.QW
