/-
  Plain facts on sums of polynomials. No program in sight.
-/
import Derived.Test.YtjpnkdpgdmmkkaaGFP
import Derived.Test.YtjpnkdpgdmmkkaaBase
namespace Go.Qz.RS
open Go.Qz
set_option linter.unusedVariables false

/-- The coefficient at a place, counted from the highest, of a polynomial laid into n places. -/
def pat (l : List Nat) (n j : Nat) : Nat := if n ≤ l.length + j then nth l (l.length + j - n) else 0
/-- The sum, so far. -/
def rawTo (a b : List Nat) (n k : Nat) : List Nat := (List.range n).map fun j => if j < k then pat a n j ^^^ pat b n j else 0
/-- The sum of two polynomials. -/
def plus (a b : List Nat) : List Nat := tidy (rawTo a b (max a.length b.length) (max a.length b.length))

theorem rawTo_length (a b : List Nat) (n k : Nat) : (rawTo a b n k).length = n := by simp [rawTo]
theorem rawTo_nth (a b : List Nat) (n k j : Nat) (hj : j < n) : nth (rawTo a b n k) j = if j < k then pat a n j ^^^ pat b n j else 0 := nth_map_range _ _ _ hj
theorem rawTo_zero (a b : List Nat) (n : Nat) : rawTo a b n 0 = List.replicate n 0 := by
  apply List.ext_getElem?
  intro i
  by_cases hl : i < n
  · simp [rawTo, hl]
  · rw [List.getElem?_eq_none (by simpa [rawTo] using hl), List.getElem?_eq_none (by simpa using hl)]
theorem rawTo_set (a b : List Nat) (n k : Nat) : (rawTo a b n k).set k (pat a n k ^^^ pat b n k) = rawTo a b n (k + 1) := by
  apply List.ext_getElem?
  intro i
  rw [List.getElem?_set]
  by_cases h : i = k
  · subst h
    by_cases hl : i < n <;> simp [rawTo, hl]
  · rw [if_neg (fun e => h e.symm)]
    by_cases hl : i < n
    · simp only [rawTo, List.getElem?_map, List.getElem?_range hl, Option.map_some]
      by_cases hk : i < k
      · simp [hk, show i < k + 1 by omega]
      · simp [hk, show ¬ i < k + 1 by omega]
    · rw [List.getElem?_eq_none (by simpa [rawTo] using hl), List.getElem?_eq_none (by simpa [rawTo] using hl)]

theorem tidy_head : ∀ l : List Nat, l ≠ [] → nth (tidy l) 0 = 0 → tidy l = [0]
  | [], h, _ => absurd rfl h
  | [a], _, h => by
    have : a = 0 := h
    subst this; rfl
  | a :: b :: t, _, h => by
    unfold tidy at h ⊢
    split at h
    · rename_i h0
      rw [if_pos h0]
      exact tidy_head (b :: t) (by simp) h
    · rename_i h0
      exact absurd h h0
theorem tidy_tidy : ∀ l : List Nat, tidy (tidy l) = tidy l
  | [] => rfl
  | [a] => rfl
  | a :: b :: t => by
    by_cases h0 : a = 0
    · have : tidy (a :: b :: t) = tidy (b :: t) := by rw [tidy, if_pos h0]
      rw [this]; exact tidy_tidy (b :: t)
    · have : tidy (a :: b :: t) = a :: b :: t := by rw [tidy, if_neg h0]
      rw [this, this]
theorem plus_zero (b : List Nat) (hb : b ≠ []) (ht : tidy b = b) : plus [0] b = b := by
  have hl := List.length_pos_iff.2 hb
  unfold plus
  rw [show max [0].length b.length = b.length by simp; omega]
  rw [show rawTo [0] b b.length b.length = b from ?_, ht]
  apply List.ext_getElem?
  intro i
  by_cases h : i < b.length
  · have hp : pat [0] b.length i = 0 := by
      unfold pat
      split
      · have : ([0] : List Nat).length + i - b.length = 0 := by simp; omega
        rw [this]; rfl
      · rfl
    have hq : pat b b.length i = nth b i := by
      unfold pat
      rw [if_pos (by omega), show b.length + i - b.length = i by omega]
    rw [rawTo, List.getElem?_map, List.getElem?_range h, List.getElem?_eq_getElem h, Option.map_some, if_pos h, hp, hq, Nat.zero_xor, nth_eq h]
  · rw [List.getElem?_eq_none (by simpa [rawTo] using h), List.getElem?_eq_none (by simpa using h)]
theorem rawTo_comm (a b : List Nat) (n k : Nat) : rawTo a b n k = rawTo b a n k := by
  unfold rawTo
  congr 1; funext j; rw [Nat.xor_comm]
theorem plus_comm (a b : List Nat) : plus a b = plus b a := by
  unfold plus; rw [rawTo_comm, Nat.max_comm]
end Go.Qz.RS
