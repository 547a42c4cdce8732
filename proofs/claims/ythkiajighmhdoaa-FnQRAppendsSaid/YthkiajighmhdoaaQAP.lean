/-
  QR segments as bits (plain): fields, numbers read back, words of bits. No program in sight.
-/
import Derived.Test.YthkiajighmhdoaaBIS
namespace Go.Qz.QA
open Go.Qz Go.Qz.BS
set_option linter.unusedVariables false

/-- The n lowest bits of c, the highest first. -/
def bo (c n : Nat) : List Bool := (List.range n).map fun j => c.testBit (n - 1 - j)
theorem bo_len (c n : Nat) : (bo c n).length = n := by simp [bo]
theorem bo_at (c n j : Nat) (h : j < n) : nthB (bo c n) j = c.testBit (n - 1 - j) := by
  rw [nthB_eq (by rw [bo_len]; exact h)]; simp [bo]
theorem nthB_drop {L M rest : List Bool} {i j : Nat} (h : L.drop i = M ++ rest) (hj : j < M.length) : nthB L (i + j) = nthB M j := by
  unfold nthB
  rw [List.getD_eq_getElem?_getD, List.getD_eq_getElem?_getD, ← List.getElem?_drop, h, List.getElem?_append_left hj]
/-- The words of bits: eight to a word, the highest first; what is left over is no word. -/
def wordOf (S : List Bool) (i : Nat) : Nat → Nat
  | 0 => 0
  | k + 1 => 2 * wordOf S i k + (nthB S (8 * i + k)).toNat
theorem wordOf_lt (S : List Bool) (i : Nat) : ∀ k, wordOf S i k < 2 ^ k
  | 0 => by show 0 < 1; omega
  | k + 1 => by
    have := wordOf_lt S i k
    have h2 : (nthB S (8 * i + k)).toNat ≤ 1 := by cases nthB S (8 * i + k) <;> simp
    show 2 * wordOf S i k + _ < 2 ^ (k + 1)
    rw [Nat.pow_succ]; omega
theorem wordOf_bit (S : List Bool) (i : Nat) : ∀ k j, j < k → wordOf S i k / 2 ^ (k - 1 - j) % 2 = (nthB S (8 * i + j)).toNat
  | k + 1, j, hj => by
    show (2 * wordOf S i k + (nthB S (8 * i + k)).toNat) / 2 ^ (k + 1 - 1 - j) % 2 = _
    have h2 : (nthB S (8 * i + k)).toNat ≤ 1 := by cases nthB S (8 * i + k) <;> simp
    by_cases h : j = k
    · subst h
      rw [show j + 1 - 1 - j = 0 by omega, Nat.pow_zero, Nat.div_one]; omega
    · rw [show k + 1 - 1 - j = (k - 1 - j) + 1 by omega, Nat.pow_succ', ← Nat.div_div_eq_div_mul, show (2 * wordOf S i k + (nthB S (8 * i + k)).toNat) / 2 = wordOf S i k by omega]
      exact wordOf_bit S i k j (by omega)
def by8 (S : List Bool) : List Nat := (List.range (S.length / 8)).map fun i => wordOf S i 8
theorem by8_len (S : List Bool) : (by8 S).length = S.length / 8 := by simp [by8]
theorem by8_at (S : List Bool) {i : Nat} (h : i < S.length / 8) : nth (by8 S) i = wordOf S i 8 := by
  rw [nth_eq (by rw [by8_len]; exact h)]; simp [by8]
theorem by8_lt (S : List Bool) : ∀ x ∈ by8 S, x < 256 := by
  intro x hx
  obtain ⟨i, _, rfl⟩ := List.mem_map.1 hx
  exact wordOf_lt S i 8
theorem by8_bit (S : List Bool) (p : Nat) (h : p < 8 * (S.length / 8)) : bitAt (by8 S) p = (nthB S p).toNat := by
  unfold bitAt
  rw [by8_at S (by omega)]
  have := wordOf_bit S (p / 8) 8 (p % 8) (by omega)
  rw [show 8 - 1 - p % 8 = 7 - p % 8 by omega, show 8 * (p / 8) + p % 8 = p by omega] at this
  exact this
/-- A field read back. -/
theorem num_bo (S : List Bool) (P c n : Nat) (rest : List Bool) (h : S.drop P = bo c n ++ rest) (hc : c < 2 ^ n) (hP : P + n ≤ 8 * (S.length / 8)) : num (by8 S) P n = c := by
  have key : ∀ t, t ≤ n → num (by8 S) P t = c / 2 ^ (n - t) := by
    intro t
    induction t with
    | zero => intro _; show 0 = _; rw [Nat.sub_zero, Nat.div_eq_of_lt hc]
    | succ t ih =>
      intro ht
      show 2 * num (by8 S) P t + bitAt (by8 S) (P + t) = _
      rw [ih (by omega), by8_bit S _ (by omega), nthB_drop h (by rw [bo_len]; omega), bo_at _ _ _ (by omega), Nat.testBit_eq_decide_div_mod_eq]
      obtain ⟨d, hd⟩ : ∃ d, d = n - (t + 1) := ⟨_, rfl⟩
      rw [← hd, show n - 1 - t = d by omega, show n - t = d + 1 by omega, Nat.pow_succ, ← Nat.div_div_eq_div_mul]
      generalize c / 2 ^ d = y
      rcases Nat.mod_two_eq_zero_or_one y with h2 | h2
      · rw [h2]; simp; omega
      · rw [h2]; simp; omega
  rw [key n (Nat.le_refl _)]; simp
theorem drop_field {S M rest : List Bool} {P n : Nat} (h : S.drop P = M ++ rest) (hn : M.length = n) : S.drop (P + n) = rest := by
  rw [← List.drop_drop, h, ← hn, List.drop_append_of_le_length (Nat.le_refl _), List.drop_eq_nil_of_le (Nat.le_refl _), List.nil_append]

/-- The signs of the alphanumeric mode. -/
def alS : List Nat := [48, 49, 50, 51, 52, 53, 54, 55, 56, 57, 65, 66, 67, 68, 69, 70, 71, 72, 73, 74, 75, 76, 77, 78, 79, 80, 81, 82, 83, 84, 85, 86, 87, 88, 89, 90, 32, 36, 37, 42, 43, 45, 46, 47, 58]
def alOf (n : Nat) : Nat := nth alS n
/-- The number of a sign (45: it has none). -/
def alNum (c : Nat) : Nat := alS.findIdx (· == c)
theorem al_back : ∀ n, n < 45 → alNum (alOf n) = n ∧ alOf n < 128 := by decide
def isDig (c : Nat) : Prop := 48 ≤ c ∧ c ≤ 57
/-- A byte can be said in a mode. -/
def okIn (m c : Nat) : Prop := (m = 1 → 48 ≤ c ∧ c ≤ 57) ∧ (m = 2 → alNum c < 45 ∧ alOf (alNum c) = c) ∧ (m = 4 → c < 256)
/-- The data of a segment. -/
def dat (m : Nat) : List Nat → List Bool
  | [] => []
  | [a] => if m = 1 then bo (a - 48) 4 else if m = 2 then bo (alNum a) 6 else bo a 8
  | [a, b] => if m = 1 then bo ((a - 48) * 10 + (b - 48)) 7 else if m = 2 then bo (alNum a * 45 + alNum b) 11 else bo a 8 ++ bo b 8
  | a :: b :: c :: r => if m = 1 then bo ((a - 48) * 100 + (b - 48) * 10 + (c - 48)) 10 ++ dat m r else if m = 2 then bo (alNum a * 45 + alNum b) 11 ++ dat m (c :: r) else bo a 8 ++ dat m (b :: c :: r)
theorem dat1_three (a b c : Nat) (r : List Nat) : dat 1 (a :: b :: c :: r) = bo ((a - 48) * 100 + (b - 48) * 10 + (c - 48)) 10 ++ dat 1 r := by rw [dat, if_pos rfl]
theorem dat2_two (a b : Nat) (r : List Nat) : dat 2 (a :: b :: r) = bo (alNum a * 45 + alNum b) 11 ++ dat 2 r := by
  cases r with
  | nil => simp [dat]
  | cons c r => rw [dat, if_neg (by omega), if_pos rfl]
theorem dat4_one (a : Nat) (r : List Nat) : dat 4 (a :: r) = bo a 8 ++ dat 4 r := by
  match r with
  | [] => simp [dat]
  | [b] => simp [dat]
  | b :: c :: r => rw [dat, if_neg (by omega), if_neg (by omega)]
theorem dat_len (m : Nat) : ∀ (n : Nat) (l : List Nat), l.length ≤ n → (dat m l).length ≤ 8 * l.length
  | _, [], _ => by simp [dat]
  | _, [a], _ => by unfold dat; split <;> (try split) <;> simp [bo_len]
  | _, [a, b], _ => by unfold dat; split <;> (try split) <;> simp [bo_len]
  | n + 1, a :: b :: c :: r, h => by
    simp only [List.length_cons] at h
    have h1 := dat_len m n r (by omega)
    have h2 := dat_len m n (c :: r) (by simp; omega)
    have h3 := dat_len m n (b :: c :: r) (by simp; omega)
    simp only [List.length_cons] at h2 h3 ⊢
    unfold dat
    split
    · rw [List.length_append, bo_len]; omega
    · split
      · rw [List.length_append, bo_len]; omega
      · rw [List.length_append, bo_len]; omega
  | 0, _ :: _ :: _ :: _, h => by simp at h
/-- How many bits say how long a segment is. -/
def cnt (m v : Nat) : Nat := if m = 1 then (if v ≤ 9 then 10 else if v ≤ 26 then 12 else 14) else if m = 2 then (if v ≤ 9 then 9 else if v ≤ 26 then 11 else 13) else (if v ≤ 9 then 8 else 16)
theorem cnt_bd (m v : Nat) : 8 ≤ cnt m v ∧ cnt m v ≤ 16 := by
  unfold cnt
  constructor <;> (repeat' split) <;> omega
/-- Segments: a mode and a text each. -/
def stm (v : Nat) : List (Nat × List Nat) → List Bool
  | [] => []
  | s :: r => bo s.1 4 ++ (bo s.2.length (cnt s.1 v) ++ (dat s.1 s.2 ++ stm v r))
def okSeg (s : Nat × List Nat) : Prop := (s.1 = 1 ∨ s.1 = 2 ∨ s.1 = 4) ∧ s.2.length ≤ 100 ∧ ∀ x ∈ s.2, okIn s.1 x ∧ 32 ≤ x ∧ x ≤ 126
theorem stm_len (v : Nat) : ∀ l : List (Nat × List Nat), (∀ s ∈ l, okSeg s) → (stm v l).length ≤ 820 * l.length
  | [], _ => by simp [stm]
  | s :: r, h => by
    have ih := stm_len v r (fun x hx => h x (List.mem_cons_of_mem _ hx))
    have h1 := dat_len s.1 _ s.2 (Nat.le_refl _)
    have h2 := (h s (by simp)).2.1
    have h3 := cnt_bd s.1 v
    unfold stm
    simp only [List.length_append, bo_len, List.length_cons]
    omega
end Go.Qz.QA
