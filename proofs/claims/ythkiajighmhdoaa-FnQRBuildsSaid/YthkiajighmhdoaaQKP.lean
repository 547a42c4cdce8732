/-
  A QR symbol's patterns (plain): layers of a grid, the middles of alignment patterns, what is given. No program in sight.
-/
import Derived.Test.YthkiajighmhdoaaQWT
namespace Go.Qz.QK
open Go.Qz Go.Qz.QW
set_option linter.unusedVariables false

/-- How far two modules are from each other. -/
def far (r c a b : Nat) : Nat := max (max (r - a) (a - r)) (max (c - b) (b - c))
theorem far_le (r c a b k : Nat) : far r c a b ≤ k ↔ r ≤ a + k ∧ a ≤ r + k ∧ c ≤ b + k ∧ b ≤ c + k := by unfold far; omega
/-- How far from the nearest middle of a finder. -/
def fin3 (n r c : Nat) : Nat := min (min (far r c 3 3) (far r c 3 (n - 4))) (far r c (n - 4) 3)
abbrev G := Nat → Nat → Int
def f0 : G := fun _ _ => -1
def pdv (a b : Nat) : Int := if far a b 3 3 = 2 then 0 else 1
def pav (a b : Nat) : Int := if far a b 2 2 = 1 then 0 else 1
def setP (x y : Nat) (g : G) : G := fun r c => if y ≤ r ∧ r < y + 7 ∧ x ≤ c ∧ c < x + 7 then pdv (r - y) (c - x) else g r c
def setA (x y : Nat) (g : G) : G := fun r c => if y ≤ r ∧ r < y + 5 ∧ x ≤ c ∧ c < x + 5 then pav (r - y) (c - x) else g r c
def hs (x y : Nat) (g : G) : G := fun r c => if r = y ∧ x ≤ c ∧ c < x + 8 then 0 else g r c
def vs (x y : Nat) (g : G) : G := fun r c => if c = x ∧ y ≤ r ∧ r < y + 7 then 0 else g r c
def f1 (n : Nat) : G := fun r c => if fin3 n r c ≤ 4 then (if fin3 n r c = 2 ∨ fin3 n r c = 4 then 0 else 1) else -1
def g3 (n : Nat) : G := setP 0 (n - 7) (setP (n - 7) 0 (setP 0 0 f0))
def g9 (n : Nat) : G := vs 7 (n - 7) (vs (n - 8) 0 (vs 7 0 (hs 0 (n - 8) (hs (n - 8) 7 (hs 0 7 (g3 n))))))
theorem far_gt (r c a b k : Nat) (h : ¬ (r ≤ a + k ∧ a ≤ r + k ∧ c ≤ b + k ∧ b ≤ c + k)) : k < far r c a b := by
  rcases Nat.lt_or_ge k (far r c a b) with h1 | h1
  · exact h1
  · exact absurd ((far_le r c a b k).1 h1) h
theorem fin_out (n r c : Nat) (hn : 21 ≤ n) (h1 : ¬ (r ≤ 7 ∧ c ≤ 7)) (h2 : ¬ (r ≤ 7 ∧ n - 8 ≤ c)) (h3 : ¬ (n - 8 ≤ r ∧ c ≤ 7)) : 4 < fin3 n r c := by
  have a1 := far_gt r c 3 3 4 (by omega)
  have a2 := far_gt r c 3 (n - 4) 4 (by omega)
  have a3 := far_gt r c (n - 4) 3 4 (by omega)
  unfold fin3; omega
theorem fin_a (n r c : Nat) (hn : 21 ≤ n) (hr : r ≤ 7) (hc : c ≤ 7) : fin3 n r c = far r c 3 3 ∧ far r c 3 3 ≤ 4 := by
  have a1 := (far_le r c 3 3 4).2 (by omega)
  have a2 := far_gt r c 3 (n - 4) 4 (by omega)
  have a3 := far_gt r c (n - 4) 3 4 (by omega)
  unfold fin3; omega
theorem fin_b (n r c : Nat) (hn : 21 ≤ n) (hr : r ≤ 7) (hc : n - 8 ≤ c) (hcn : c < n) : fin3 n r c = far r c 3 (n - 4) ∧ far r c 3 (n - 4) ≤ 4 := by
  have a1 := far_gt r c 3 3 4 (by omega)
  have a2 := (far_le r c 3 (n - 4) 4).2 (by omega)
  have a3 := far_gt r c (n - 4) 3 4 (by omega)
  unfold fin3; omega
theorem fin_c (n r c : Nat) (hn : 21 ≤ n) (hr : n - 8 ≤ r) (hrn : r < n) (hc : c ≤ 7) : fin3 n r c = far r c (n - 4) 3 ∧ far r c (n - 4) 3 ≤ 4 := by
  have a1 := far_gt r c 3 3 4 (by omega)
  have a2 := far_gt r c 3 (n - 4) 4 (by omega)
  have a3 := (far_le r c (n - 4) 3 4).2 (by omega)
  unfold fin3; omega
theorem far_4 (r c a b : Nat) (h : far r c a b ≤ 4) (h2 : ¬ (r ≤ a + 3 ∧ a ≤ r + 3 ∧ c ≤ b + 3 ∧ b ≤ c + 3)) : (if far r c a b ≤ 4 then (if far r c a b = 2 ∨ far r c a b = 4 then (0 : Int) else 1) else -1) = 0 := by
  have := far_gt r c a b 3 h2
  rw [if_pos h, if_pos (by omega)]
theorem far_3 (r c a b a' b' r' c' : Nat) (h : far r c a b ≤ 3) (e : far r' c' a' b' = far r c a b) : (if far r c a b ≤ 4 then (if far r c a b = 2 ∨ far r c a b = 4 then (0 : Int) else 1) else -1) = if far r' c' a' b' = 2 then 0 else 1 := by
  rw [e, if_pos (by omega)]
  by_cases h2 : far r c a b = 2
  · rw [if_pos h2, if_pos (.inl h2)]
  · rw [if_neg h2, if_neg (by omega)]
theorem far_shift (r c a b x y : Nat) (hx : x ≤ r) (hxa : x ≤ a) (hy : y ≤ c) (hyb : y ≤ b) : far (r - x) (c - y) (a - x) (b - y) = far r c a b := by
  unfold far
  rw [show r - x - (a - x) = r - a by omega, show a - x - (r - x) = a - r by omega, show c - y - (b - y) = c - b by omega, show b - y - (c - y) = b - c by omega]
theorem g9_eq (n r c : Nat) (hn : 21 ≤ n) (hr : r < n) (hc : c < n) : g9 n r c = f1 n r c := by
  unfold g9 g3 f1 vs hs setP f0 pdv
  by_cases h1 : r ≤ 7 ∧ c ≤ 7
  · obtain ⟨e, h4⟩ := fin_a n r c hn h1.1 h1.2
    rw [e]
    by_cases a0 : r = 7 ∨ c = 7
    · rw [far_4 _ _ _ _ h4 (by omega), if_neg (show ¬ (c = 7 ∧ n - 7 ≤ r ∧ r < n - 7 + 7) by omega), if_neg (show ¬ (c = n - 8 ∧ 0 ≤ r ∧ r < 0 + 7) by omega)]
      by_cases a1 : c = 7 ∧ 0 ≤ r ∧ r < 0 + 7
      · rw [if_pos a1]
      · rw [if_neg a1, if_neg (show ¬ (r = n - 8 ∧ 0 ≤ c ∧ c < 0 + 8) by omega), if_neg (show ¬ (r = 7 ∧ n - 8 ≤ c ∧ c < n - 8 + 8) by omega), if_pos (show r = 7 ∧ 0 ≤ c ∧ c < 0 + 8 by omega)]
    · have h3 := (far_le r c 3 3 3).2 (by omega)
      rw [far_3 r c 3 3 3 3 (r - 0) (c - 0) h3 rfl]
      rw [if_neg (show ¬ (c = 7 ∧ n - 7 ≤ r ∧ r < n - 7 + 7) by omega), if_neg (show ¬ (c = n - 8 ∧ 0 ≤ r ∧ r < 0 + 7) by omega), if_neg (show ¬ (c = 7 ∧ 0 ≤ r ∧ r < 0 + 7) by omega),
        if_neg (show ¬ (r = n - 8 ∧ 0 ≤ c ∧ c < 0 + 8) by omega), if_neg (show ¬ (r = 7 ∧ n - 8 ≤ c ∧ c < n - 8 + 8) by omega), if_neg (show ¬ (r = 7 ∧ 0 ≤ c ∧ c < 0 + 8) by omega),
        if_neg (show ¬ (n - 7 ≤ r ∧ r < n - 7 + 7 ∧ 0 ≤ c ∧ c < 0 + 7) by omega), if_neg (show ¬ (0 ≤ r ∧ r < 0 + 7 ∧ n - 7 ≤ c ∧ c < n - 7 + 7) by omega), if_pos (show 0 ≤ r ∧ r < 0 + 7 ∧ 0 ≤ c ∧ c < 0 + 7 by omega)]
  by_cases h2 : r ≤ 7 ∧ n - 8 ≤ c
  · obtain ⟨e, h4⟩ := fin_b n r c hn h2.1 h2.2 hc
    rw [e]
    by_cases a0 : r = 7 ∨ c = n - 8
    · rw [far_4 _ _ _ _ h4 (by omega), if_neg (show ¬ (c = 7 ∧ n - 7 ≤ r ∧ r < n - 7 + 7) by omega)]
      by_cases a1 : c = n - 8 ∧ 0 ≤ r ∧ r < 0 + 7
      · rw [if_pos a1]
      · rw [if_neg a1, if_neg (show ¬ (c = 7 ∧ 0 ≤ r ∧ r < 0 + 7) by omega), if_neg (show ¬ (r = n - 8 ∧ 0 ≤ c ∧ c < 0 + 8) by omega), if_pos (show r = 7 ∧ n - 8 ≤ c ∧ c < n - 8 + 8 by omega)]
    · have h3 := (far_le r c 3 (n - 4) 3).2 (by omega)
      have hsh := far_shift r c 3 (n - 4) 0 (n - 7) (by omega) (by omega) (by omega) (by omega)
      rw [show n - 4 - (n - 7) = 3 by omega, show 3 - 0 = 3 from rfl] at hsh
      rw [far_3 r c 3 (n - 4) 3 3 (r - 0) (c - (n - 7)) h3 hsh]
      rw [if_neg (show ¬ (c = 7 ∧ n - 7 ≤ r ∧ r < n - 7 + 7) by omega), if_neg (show ¬ (c = n - 8 ∧ 0 ≤ r ∧ r < 0 + 7) by omega), if_neg (show ¬ (c = 7 ∧ 0 ≤ r ∧ r < 0 + 7) by omega),
        if_neg (show ¬ (r = n - 8 ∧ 0 ≤ c ∧ c < 0 + 8) by omega), if_neg (show ¬ (r = 7 ∧ n - 8 ≤ c ∧ c < n - 8 + 8) by omega), if_neg (show ¬ (r = 7 ∧ 0 ≤ c ∧ c < 0 + 8) by omega),
        if_neg (show ¬ (n - 7 ≤ r ∧ r < n - 7 + 7 ∧ 0 ≤ c ∧ c < 0 + 7) by omega), if_pos (show 0 ≤ r ∧ r < 0 + 7 ∧ n - 7 ≤ c ∧ c < n - 7 + 7 by omega)]
  by_cases h3 : n - 8 ≤ r ∧ c ≤ 7
  · obtain ⟨e, h4⟩ := fin_c n r c hn h3.1 hr h3.2
    rw [e]
    by_cases a0 : r = n - 8 ∨ c = 7
    · rw [far_4 _ _ _ _ h4 (by omega)]
      by_cases a1 : c = 7 ∧ n - 7 ≤ r ∧ r < n - 7 + 7
      · rw [if_pos a1]
      · rw [if_neg a1, if_neg (show ¬ (c = n - 8 ∧ 0 ≤ r ∧ r < 0 + 7) by omega), if_neg (show ¬ (c = 7 ∧ 0 ≤ r ∧ r < 0 + 7) by omega), if_pos (show r = n - 8 ∧ 0 ≤ c ∧ c < 0 + 8 by omega)]
    · have h3 := (far_le r c (n - 4) 3 3).2 (by omega)
      have hsh := far_shift r c (n - 4) 3 (n - 7) 0 (by omega) (by omega) (by omega) (by omega)
      rw [show n - 4 - (n - 7) = 3 by omega, show 3 - 0 = 3 from rfl] at hsh
      rw [far_3 r c (n - 4) 3 3 3 (r - (n - 7)) (c - 0) h3 hsh]
      rw [if_neg (show ¬ (c = 7 ∧ n - 7 ≤ r ∧ r < n - 7 + 7) by omega), if_neg (show ¬ (c = n - 8 ∧ 0 ≤ r ∧ r < 0 + 7) by omega), if_neg (show ¬ (c = 7 ∧ 0 ≤ r ∧ r < 0 + 7) by omega),
        if_neg (show ¬ (r = n - 8 ∧ 0 ≤ c ∧ c < 0 + 8) by omega), if_neg (show ¬ (r = 7 ∧ n - 8 ≤ c ∧ c < n - 8 + 8) by omega), if_neg (show ¬ (r = 7 ∧ 0 ≤ c ∧ c < 0 + 8) by omega),
        if_pos (show n - 7 ≤ r ∧ r < n - 7 + 7 ∧ 0 ≤ c ∧ c < 0 + 7 by omega)]
  · have := fin_out n r c hn h1 h2 h3
    rw [if_neg (show ¬ fin3 n r c ≤ 4 by omega), if_neg (by omega), if_neg (by omega), if_neg (by omega), if_neg (by omega), if_neg (by omega), if_neg (by omega), if_neg (by omega), if_neg (by omega), if_neg (by omega)]
/-- What each separator finds empty. -/
theorem free_h1 (n k : Nat) (hn : 21 ≤ n) (hk : k < 8) : g3 n 7 (0 + k) = -1 := by
  unfold g3 setP f0; rw [if_neg (by omega), if_neg (by omega), if_neg (by omega)]
theorem free_h2 (n k : Nat) (hn : 21 ≤ n) (hk : k < 8) : hs 0 7 (g3 n) 7 (n - 8 + k) = -1 := by
  unfold hs g3 setP f0; rw [if_neg (by omega), if_neg (by omega), if_neg (by omega), if_neg (by omega)]
theorem free_h3 (n k : Nat) (hn : 21 ≤ n) (hk : k < 8) : hs (n - 8) 7 (hs 0 7 (g3 n)) (n - 8) (0 + k) = -1 := by
  unfold hs g3 setP f0; rw [if_neg (by omega), if_neg (by omega), if_neg (by omega), if_neg (by omega), if_neg (by omega)]
theorem free_v1 (n k : Nat) (hn : 21 ≤ n) (hk : k < 7) : hs 0 (n - 8) (hs (n - 8) 7 (hs 0 7 (g3 n))) (0 + k) 7 = -1 := by
  unfold hs g3 setP f0; rw [if_neg (by omega), if_neg (by omega), if_neg (by omega), if_neg (by omega), if_neg (by omega), if_neg (by omega)]
theorem free_v2 (n k : Nat) (hn : 21 ≤ n) (hk : k < 7) : vs 7 0 (hs 0 (n - 8) (hs (n - 8) 7 (hs 0 7 (g3 n)))) (0 + k) (n - 8) = -1 := by
  unfold vs hs g3 setP f0; rw [if_neg (by omega), if_neg (by omega), if_neg (by omega), if_neg (by omega), if_neg (by omega), if_neg (by omega), if_neg (by omega)]
theorem free_v3 (n k : Nat) (hn : 21 ≤ n) (hk : k < 7) : vs (n - 8) 0 (vs 7 0 (hs 0 (n - 8) (hs (n - 8) 7 (hs 0 7 (g3 n))))) (n - 7 + k) 7 = -1 := by
  unfold vs hs g3 setP f0; rw [if_neg (by omega), if_neg (by omega), if_neg (by omega), if_neg (by omega), if_neg (by omega), if_neg (by omega), if_neg (by omega), if_neg (by omega)]

/-- The dark module. -/
def f2 (n : Nat) : G := fun r c => if r = n - 8 ∧ c = 8 then 1 else f1 n r c
theorem dark_free (n : Nat) (hn : 21 ≤ n) : f1 n (n - 8) 8 = -1 := by
  have := fin_out n (n - 8) 8 hn (by omega) (by omega) (by omega)
  unfold f1; rw [if_neg (by omega)]

/-- The alignment pattern in which a module stands, the newest first. -/
def f3 (l : List (Nat × Nat)) (g : G) : G := fun r c => match l.find? fun p => decide (far r c p.1 p.2 ≤ 2) with
  | some p => if far r c p.1 p.2 = 1 then 0 else 1
  | none => g r c
theorem f3_cons (a b : Nat) (l : List (Nat × Nat)) (g : G) (ha : 2 ≤ a) (hb : 2 ≤ b) : f3 ((a, b) :: l) g = setA (b - 2) (a - 2) (f3 l g) := by
  funext r c
  unfold setA
  by_cases h : far r c a b ≤ 2
  · have h2 := (far_le r c a b 2).1 h
    rw [if_pos (by omega)]
    unfold f3 pav
    rw [List.find?_cons_of_pos (by simpa using h)]
    have e : far (r - (a - 2)) (c - (b - 2)) 2 2 = far r c a b := by unfold far; omega
    rw [e]
  · have h2 : ¬ (r ≤ a + 2 ∧ a ≤ r + 2 ∧ c ≤ b + 2 ∧ b ≤ c + 2) := fun h3 => h ((far_le r c a b 2).2 h3)
    rw [if_neg (by omega)]
    unfold f3
    rw [List.find?_cons_of_neg (by simpa using h)]
theorem f3_none {l : List (Nat × Nat)} {g : G} {r c : Nat} (h : ∀ p ∈ l, 2 < far r c p.1 p.2) : f3 l g r c = g r c := by
  unfold f3
  rw [List.find?_eq_none.2 (fun p hp => by have := h p hp; simp; omega)]
theorem f3_ge {l : List (Nat × Nat)} {g : G} {r c : Nat} (h : 0 ≤ g r c) : 0 ≤ f3 l g r c := by
  unfold f3
  split
  · split <;> omega
  · exact h
/-- A pair of middles where a finder stands. -/
def cnr (m i k : Nat) : Bool := (i == 0 && (k == 0 || k == m - 1)) || (i == m - 1 && k == 0)
def rowP (cs : List Nat) (m i k : Nat) : List (Nat × Nat) := ((List.range k).filter fun j => !cnr m i j).map fun j => (nth cs i, nth cs j)
/-- The patterns ahead of a pair. -/
def plTo (cs : List Nat) (m i k : Nat) : List (Nat × Nat) := (List.range i).flatMap (fun j => rowP cs m j m) ++ rowP cs m i k
theorem rowP_succ (cs : List Nat) (m i k : Nat) : rowP cs m i (k + 1) = rowP cs m i k ++ (if cnr m i k then [] else [(nth cs i, nth cs k)]) := by
  unfold rowP
  rw [List.range_succ, List.filter_append, List.map_append]
  congr 1
  cases h : cnr m i k <;> simp [h]
theorem plTo_succ (cs : List Nat) (m i k : Nat) : plTo cs m i (k + 1) = plTo cs m i k ++ (if cnr m i k then [] else [(nth cs i, nth cs k)]) := by
  unfold plTo; rw [rowP_succ, List.append_assoc]
theorem plTo_row (cs : List Nat) (m i : Nat) : plTo cs m (i + 1) 0 = plTo cs m i m := by
  unfold plTo
  rw [List.range_succ, List.flatMap_append]
  simp [rowP]
theorem plTo_mem {cs : List Nat} {m i k : Nat} {p : Nat × Nat} (h : p ∈ plTo cs m i k) (hk : k ≤ m) : ∃ i' k', (i' < i ∨ i' = i ∧ k' < k) ∧ k' < m ∧ cnr m i' k' = false ∧ p = (nth cs i', nth cs k') := by
  unfold plTo at h
  rcases List.mem_append.1 h with h | h
  · obtain ⟨j, hj, h⟩ := List.mem_flatMap.1 h
    obtain ⟨k', hk', rfl⟩ := List.mem_map.1 h
    obtain ⟨h1, h2⟩ := List.mem_filter.1 hk'
    exact ⟨j, k', .inl (List.mem_range.1 hj), List.mem_range.1 h1, by simpa using h2, rfl⟩
  · obtain ⟨k', hk', rfl⟩ := List.mem_map.1 h
    obtain ⟨h1, h2⟩ := List.mem_filter.1 hk'
    have := List.mem_range.1 h1
    exact ⟨i, k', .inr ⟨rfl, this⟩, by omega, by simpa using h2, rfl⟩
theorem mem_plTo {cs : List Nat} {m i k i' k' : Nat} (h : i' < i ∨ i' = i ∧ k' < k) (hk : k' < m) (hc : cnr m i' k' = false) : (nth cs i', nth cs k') ∈ plTo cs m i k := by
  unfold plTo
  rcases h with h | ⟨rfl, h⟩
  · exact List.mem_append_left _ (List.mem_flatMap.2 ⟨i', List.mem_range.2 h, List.mem_map.2 ⟨k', List.mem_filter.2 ⟨List.mem_range.2 hk, by simpa using hc⟩, rfl⟩⟩)
  · exact List.mem_append_right _ (List.mem_map.2 ⟨k', List.mem_filter.2 ⟨List.mem_range.2 h, by simpa using hc⟩, rfl⟩)
/-- What the middles of a version are like. -/
structure Mid (n m : Nat) (cs : List Nat) : Prop where
  len : cs.length = m
  n21 : 21 ≤ n
  n25 : 0 < m → 25 ≤ n ∧ 2 ≤ m
  first : 0 < m → nth cs 0 = 6
  last : 0 < m → nth cs (m - 1) = n - 7
  mid : ∀ i, 0 < i → i < m - 1 → 16 ≤ nth cs i ∧ nth cs i + 21 ≤ n
  apart : ∀ i k, i < m → k < m → i ≠ k → nth cs i + 5 ≤ nth cs k ∨ nth cs k + 5 ≤ nth cs i
def midB (n m : Nat) (cs : List Nat) : Bool :=
  decide (cs.length = m) && (decide (21 ≤ n) && ((decide (m = 0) || (decide (25 ≤ n) && (decide (2 ≤ m) && (decide (nth cs 0 = 6) && decide (nth cs (m - 1) = n - 7))))) &&
    (((List.range m).all fun i => (decide (i = 0) || (decide (i = m - 1) || (decide (16 ≤ nth cs i) && decide (nth cs i + 21 ≤ n))))) &&
    ((List.range m).all fun i => (List.range m).all fun k => decide (i = k) || (decide (nth cs i + 5 ≤ nth cs k) || decide (nth cs k + 5 ≤ nth cs i))))))
theorem mid_of {n m : Nat} {cs : List Nat} (h : midB n m cs = true) : Mid n m cs := by
  unfold midB at h
  simp only [Bool.and_eq_true, Bool.or_eq_true, decide_eq_true_eq, List.all_eq_true, List.mem_range] at h
  obtain ⟨h1, h2, h3, h4, h5⟩ := h
  refine ⟨h1, h2, fun h0 => ?_, fun h0 => ?_, fun h0 => ?_, fun i hi hm => ?_, fun i k hi hk hik => ?_⟩
  · rcases h3 with h3 | h3
    · omega
    · exact ⟨h3.1, h3.2.1⟩
  · rcases h3 with h3 | h3
    · omega
    · exact h3.2.2.1
  · rcases h3 with h3 | h3
    · omega
    · exact h3.2.2.2
  · rcases h4 i (by omega) with h | h | h
    · omega
    · omega
    · exact h
  · rcases h5 i hi k hk with h | h | h
    · exact absurd h hik
    · exact .inl h
    · exact .inr h
theorem mid_all : ((List.range 40).all fun v => midB (dimOf (v + 1)) (manyOf (v + 1)) (cenOf (v + 1))) = true := by decide +kernel
theorem mid_ver (v : Nat) (h1 : 1 ≤ v) (h2 : v ≤ 40) : Mid (dimOf v) (manyOf v) (cenOf v) := by
  have h := mid_all
  rw [List.all_eq_true] at h
  have := h (v - 1) (by simp; omega)
  rw [show v - 1 + 1 = v by omega] at this
  exact mid_of this
theorem cnr_iff (m i k : Nat) : cnr m i k = true ↔ (i = 0 ∧ (k = 0 ∨ k = m - 1)) ∨ (i = m - 1 ∧ k = 0) := by unfold cnr; simp
theorem cnr_no {m i k : Nat} (h : cnr m i k = false) : ¬ ((i = 0 ∧ (k = 0 ∨ k = m - 1)) ∨ (i = m - 1 ∧ k = 0)) := by rw [← cnr_iff, h]; simp
/-- Where a middle stands. -/
theorem Mid.at_ {n m : Nat} {cs : List Nat} (h : Mid n m cs) {i : Nat} (hi : i < m) : i = 0 ∧ nth cs i = 6 ∨ 0 < i ∧ i = m - 1 ∧ nth cs i = n - 7 ∨ 0 < i ∧ i < m - 1 ∧ 16 ≤ nth cs i ∧ nth cs i + 21 ≤ n := by
  by_cases h0 : i = 0
  · exact .inl ⟨h0, by rw [h0]; exact h.first (by omega)⟩
  · by_cases h1 : i = m - 1
    · exact .inr (.inl ⟨by omega, h1, by rw [h1]; exact h.last (by omega)⟩)
    · exact .inr (.inr ⟨by omega, by omega, h.mid i (by omega) (by omega)⟩)
theorem Mid.bd {n m : Nat} {cs : List Nat} (h : Mid n m cs) {i : Nat} (hi : i < m) : 6 ≤ nth cs i ∧ nth cs i + 7 ≤ n := by
  have := (h.n25 (by omega)).1
  rcases h.at_ hi with h | h | h <;> omega
/-- Where an alignment pattern stands, nothing else does but timing. -/
def clr (n r c : Nat) : Prop := 4 < fin3 n r c ∧ ¬ (r ≤ 8 ∧ (c ≤ 8 ∨ n - 8 ≤ c)) ∧ ¬ (n - 8 ≤ r ∧ c ≤ 8) ∧ ¬ (r ≤ 5 ∧ n - 11 ≤ c) ∧ ¬ (c ≤ 5 ∧ n - 11 ≤ r)
theorem Mid.clear {n m : Nat} {cs : List Nat} (h : Mid n m cs) {i k : Nat} (hi : i < m) (hk : k < m) (hc : cnr m i k = false) {r c : Nat} (hf : far r c (nth cs i) (nth cs k) ≤ 2) (hr : r < n) (hcn : c < n) : clr n r c := by
  have h1 := (far_le _ _ _ _ _).1 hf
  have h2 := cnr_no hc
  obtain ⟨h3, h4⟩ := h.n25 (by omega)
  have hi2 := h.at_ hi
  have hk2 := h.at_ hk
  have key : ¬ (r ≤ 8 ∧ (c ≤ 8 ∨ n - 8 ≤ c)) ∧ ¬ (n - 8 ≤ r ∧ c ≤ 8) ∧ ¬ (r ≤ 5 ∧ n - 11 ≤ c) ∧ ¬ (c ≤ 5 ∧ n - 11 ≤ r) := by
    rcases hi2 with hi2 | hi2 | hi2 <;> rcases hk2 with hk2 | hk2 | hk2 <;> omega
  exact ⟨fin_out n r c h.n21 (by omega) (by omega) (by omega), key⟩
/-- Two patterns do not meet. -/
theorem Mid.one {n m : Nat} {cs : List Nat} (h : Mid n m cs) {i k i' k' : Nat} (hi : i < m) (hk : k < m) (hi' : i' < m) (hk' : k' < m) {r c : Nat} (h1 : far r c (nth cs i) (nth cs k) ≤ 2) (h2 : far r c (nth cs i') (nth cs k') ≤ 2) : i = i' ∧ k = k' := by
  have h1 := (far_le _ _ _ _ _).1 h1
  have h2 := (far_le _ _ _ _ _).1 h2
  constructor
  · by_cases e : i = i'
    · exact e
    · have := h.apart i i' hi hi' e; omega
  · by_cases e : k = k'
    · exact e
    · have := h.apart k k' hk hk' e; omega
/-- At a pair's middle: nothing yet, but at a finder's. -/
theorem Mid.free {n m : Nat} {cs : List Nat} (h : Mid n m cs) {i k : Nat} (hi : i < m) (hk : k < m) (hc : cnr m i k = false) : f3 (plTo cs m i k).reverse (f2 n) (nth cs i) (nth cs k) = -1 := by
  have h5 := (h.n25 (by omega)).1
  have b1 := h.bd hi
  have b2 := h.bd hk
  rw [f3_none fun p hp => by
    obtain ⟨i', k', hl, hk', _, rfl⟩ := plTo_mem (List.mem_reverse.1 hp) (by omega)
    rcases Nat.lt_or_ge 2 (far (nth cs i) (nth cs k) (nth cs i') (nth cs k')) with h6 | h6
    · exact h6
    · have := h.one hi hk (show i' < m by omega) hk' (r := nth cs i) (c := nth cs k) (by unfold far; omega) h6
      omega]
  obtain ⟨h1, h2, h3, _⟩ := h.clear hi hk hc (r := nth cs i) (c := nth cs k) (by unfold far; omega) (by omega) (by omega)
  unfold f2 f1
  rw [if_neg (by omega), if_neg (by omega)]
theorem Mid.held {n m : Nat} {cs : List Nat} (h : Mid n m cs) {i k : Nat} (hi : i < m) (hk : k < m) (hc : cnr m i k = true) (l : List (Nat × Nat)) : 0 ≤ f3 l (f2 n) (nth cs i) (nth cs k) := by
  have h5 := (h.n25 (by omega)).1
  apply f3_ge
  have h6 : fin3 n (nth cs i) (nth cs k) ≤ 4 := by
    rcases (cnr_iff m i k).1 hc with ⟨rfl, rfl | rfl⟩ | ⟨rfl, rfl⟩
    · rw [h.first (by omega)]; obtain ⟨e, h6⟩ := fin_a n 6 6 h.n21 (by omega) (by omega); rw [e]; exact h6
    · rw [h.first (by omega), h.last (by omega)]; obtain ⟨e, h6⟩ := fin_b n 6 (n - 7) h.n21 (by omega) (by omega) (by omega); rw [e]; exact h6
    · rw [h.first (by omega), h.last (by omega)]; obtain ⟨e, h6⟩ := fin_c n (n - 7) 6 h.n21 (by omega) (by omega) (by omega); rw [e]; exact h6
  unfold f2 f1
  rw [if_pos h6]
  split
  · omega
  · split <;> omega
/-- How far a module is from the middle of its alignment pattern. -/
def al (cs : List Nat) (m r c : Nat) : Int := match (plTo cs m m 0).find? fun p => decide (far r c p.1 p.2 ≤ 2) with
  | some p => far r c p.1 p.2
  | none => -1
theorem Mid.al_hit {n m : Nat} {cs : List Nat} (h : Mid n m cs) {i k : Nat} (hi : i < m) (hk : k < m) (hc : cnr m i k = false) {r c : Nat} (hf : far r c (nth cs i) (nth cs k) ≤ 2) : al cs m r c = far r c (nth cs i) (nth cs k) := by
  unfold al
  cases hx : (plTo cs m m 0).find? fun p => decide (far r c p.1 p.2 ≤ 2) with
  | none =>
    have := List.find?_eq_none.1 hx _ (mem_plTo (cs := cs) (m := m) (i := m) (k := 0) (.inl hi) hk hc)
    simp at this; omega
  | some p =>
    have h1 := List.find?_some hx
    obtain ⟨i', k', hl, hk', _, rfl⟩ := plTo_mem (List.mem_of_find?_eq_some hx) (by omega)
    simp only [decide_eq_true_eq] at h1
    obtain ⟨rfl, rfl⟩ := h.one hi hk (show i' < m by omega) hk' hf h1
    rfl
theorem Mid.al_no {m : Nat} {cs : List Nat} {r c : Nat} (h : ∀ i k, i < m → k < m → cnr m i k = false → 2 < far r c (nth cs i) (nth cs k)) : al cs m r c = -1 := by
  unfold al
  rw [List.find?_eq_none.2 fun p hp => by
    obtain ⟨i', k', hl, hk', hc, rfl⟩ := plTo_mem hp (by omega)
    have := h i' k' (by omega) hk' hc
    simp; omega]
theorem Mid.al_cases {n m : Nat} {cs : List Nat} (h : Mid n m cs) {r c : Nat} (hr : r < n) (hcn : c < n) : al cs m r c = -1 ∨ 0 ≤ al cs m r c ∧ al cs m r c ≤ 2 ∧ clr n r c := by
  unfold al
  cases hx : (plTo cs m m 0).find? fun p => decide (far r c p.1 p.2 ≤ 2) with
  | none => exact .inl rfl
  | some p =>
    have h1 := List.find?_some hx
    obtain ⟨i', k', hl, hk', hc, rfl⟩ := plTo_mem (List.mem_of_find?_eq_some hx) (by omega)
    simp only [decide_eq_true_eq] at h1
    exact .inr ⟨by simp, by simp only; omega, h.clear (show i' < m by omega) hk' hc h1 hr hcn⟩
theorem Mid.f3_al {n m : Nat} {cs : List Nat} (h : Mid n m cs) (g : G) (r c : Nat) : f3 (plTo cs m m 0).reverse g r c = if 0 ≤ al cs m r c then (if al cs m r c = 1 then 0 else 1) else g r c := by
  unfold f3
  cases hx : (plTo cs m m 0).reverse.find? fun p => decide (far r c p.1 p.2 ≤ 2) with
  | none =>
    have : al cs m r c = -1 := by
      unfold al
      rw [List.find?_eq_none.2 fun p hp => List.find?_eq_none.1 hx p (List.mem_reverse.2 hp)]
    rw [this]; rfl
  | some p =>
    have h1 := List.find?_some hx
    obtain ⟨i', k', hl, hk', hc, rfl⟩ := plTo_mem (List.mem_reverse.1 (List.mem_of_find?_eq_some hx)) (by omega)
    simp only [decide_eq_true_eq] at h1
    rw [h.al_hit (show i' < m by omega) hk' hc h1]
    simp only [Int.natCast_nonneg, if_true]
    by_cases e : far r c (nth cs i') (nth cs k') = 1
    · rw [if_pos e, if_pos (by omega)]
    · rw [if_neg e, if_neg (by omega)]
/-- Timing, up to a place. -/
def f4 (n t : Nat) (g : G) : G := fun r c => if g r c = -1 ∧ (r = 6 ∧ 8 ≤ c ∧ c < t ∨ c = 6 ∧ 8 ≤ r ∧ r < t) then (((r + c + 1) % 2 : Nat) : Int) else g r c
/-- Which bit of the format stands at a module. -/
def qfa (n r c : Nat) : Int :=
  if c = 8 ∧ r ≤ 5 then r else if c = 8 ∧ r = 7 then 6 else if c = 8 ∧ r = 8 then 7 else if r = 8 ∧ c = 7 then 8 else if r = 8 ∧ c ≤ 5 then 14 - c else if r = 8 ∧ n - 8 ≤ c then n - 1 - c else if c = 8 ∧ n - 7 ≤ r then (r : Int) - n + 15 else -1
def bitI (x i : Nat) : Int := if x.testBit i then 1 else 0
def f5 (n x : Nat) (t : Int) (g : G) : G := fun r c => if 0 ≤ qfa n r c ∧ qfa n r c < t then bitI x (qfa n r c).toNat else g r c
/-- Which bit of the version stands at a module. -/
def qva (n r c : Nat) : Int := if c ≤ 5 ∧ n - 11 ≤ r ∧ r ≤ n - 9 then 3 * c + (r - (n - 11) : Nat) else if r ≤ 5 ∧ n - 11 ≤ c ∧ c ≤ n - 9 then 3 * r + (c - (n - 11) : Nat) else -1
def f6 (n x : Nat) (t : Int) (g : G) : G := fun r c => if 0 ≤ qva n r c ∧ qva n r c < t then bitI x (qva n r c).toNat else g r c
/-- All that stands ahead of the data. -/
def base (v x y : Nat) : G := let n := dimOf v; f6 n y (if 7 ≤ v then 18 else 0) (f5 n x 15 (f4 n (n - 8) (f3 (plTo (cenOf v) (manyOf v) (manyOf v) 0).reverse (f2 n))))
/-- The module carries no data. -/
def giv (v n : Nat) (a : Int) (r c : Nat) : Prop := (r ≤ 8 ∧ (c ≤ 8 ∨ n - 8 ≤ c)) ∨ (n - 8 ≤ r ∧ c ≤ 8) ∨ r = 6 ∨ c = 6 ∨ (7 ≤ v ∧ (r ≤ 5 ∧ n - 11 ≤ c ∨ c ≤ 5 ∧ n - 11 ≤ r)) ∨ 0 ≤ a
instance (v n : Nat) (a : Int) (r c : Nat) : Decidable (giv v n a r c) := by unfold giv; infer_instance
/-- What stands at a module without data. -/
def pat (n x y : Nat) (a : Int) (r c : Nat) : Bool :=
  if 0 ≤ qfa n r c then x.testBit (qfa n r c).toNat
  else if r = n - 8 ∧ c = 8 then true
  else if fin3 n r c ≤ 4 then decide (fin3 n r c ≠ 2 ∧ fin3 n r c ≠ 4)
  else if 0 ≤ a then decide (a ≠ 1)
  else if r = 6 ∨ c = 6 then decide ((r + c) % 2 = 0)
  else if r < c then y.testBit (r * 3 + c + 11 - n)
  else y.testBit (c * 3 + r + 11 - n)
theorem qfa_zone (n r c : Nat) (hn : 21 ≤ n) (hr : r < n) (hc : c < n) : (0 ≤ qfa n r c ↔ (c = 8 ∧ r ≤ 8 ∧ r ≠ 6 ∨ r = 8 ∧ c ≤ 8 ∧ c ≠ 6 ∨ r = 8 ∧ n - 8 ≤ c ∨ c = 8 ∧ n - 7 ≤ r)) ∧ qfa n r c < 15 := by
  unfold qfa
  repeat' split
  all_goals omega
theorem qva_zone (n r c : Nat) : (0 ≤ qva n r c ↔ (c ≤ 5 ∧ n - 11 ≤ r ∧ r ≤ n - 9 ∨ r ≤ 5 ∧ n - 11 ≤ c ∧ c ≤ n - 9)) := by
  unfold qva
  split
  · rename_i h; exact ⟨fun _ => .inl h, fun _ => by omega⟩
  · rename_i h1
    split
    · rename_i h; exact ⟨fun _ => .inr h, fun _ => by omega⟩
    · rename_i h2
      exact ⟨fun h => by omega, fun h => by rcases h with h | h; exact absurd h h1; exact absurd h h2⟩
theorem qva_lt (n r c : Nat) (hn : 21 ≤ n) : qva n r c < 18 := by
  unfold qva
  repeat' split
  all_goals omega
theorem fin_zone (n r c : Nat) (hn : 21 ≤ n) (hr : r < n) (hc : c < n) : fin3 n r c ≤ 4 ↔ (r ≤ 7 ∧ c ≤ 7) ∨ (r ≤ 7 ∧ n - 8 ≤ c) ∨ (n - 8 ≤ r ∧ c ≤ 7) := by
  constructor
  · intro h
    by_cases h1 : r ≤ 7 ∧ c ≤ 7
    · exact .inl h1
    by_cases h2 : r ≤ 7 ∧ n - 8 ≤ c
    · exact .inr (.inl h2)
    by_cases h3 : n - 8 ≤ r ∧ c ≤ 7
    · exact .inr (.inr h3)
    · have := fin_out n r c hn h1 h2 h3; omega
  · rintro (h | h | h)
    · obtain ⟨e, h4⟩ := fin_a n r c hn h.1 h.2; omega
    · obtain ⟨e, h4⟩ := fin_b n r c hn h.1 h.2 hc; omega
    · obtain ⟨e, h4⟩ := fin_c n r c hn h.1 hr h.2; omega
set_option maxHeartbeats 6400000 in
/-- The chain of layers, at one module: numbers alone. -/
theorem chain (v n x y r c : Nat) (a F : Int) (hn : 21 ≤ n) (hv : 7 ≤ v ↔ 45 ≤ n) (hr : r < n) (hc : c < n) (ha : a = -1 ∨ 0 ≤ a ∧ a ≤ 2 ∧ clr n r c) (e3 : F = if 0 ≤ a then (if a = 1 then 0 else 1) else f2 n r c) :
    (if 0 ≤ qva n r c ∧ qva n r c < (if 7 ≤ v then 18 else 0) then bitI y (qva n r c).toNat else if 0 ≤ qfa n r c ∧ qfa n r c < 15 then bitI x (qfa n r c).toNat else
      if F = -1 ∧ (r = 6 ∧ 8 ≤ c ∧ c < n - 8 ∨ c = 6 ∧ 8 ≤ r ∧ r < n - 8) then (((r + c + 1) % 2 : Nat) : Int) else F) =
    if giv v n a r c then (if pat n x y a r c then 1 else 0) else -1 := by
  obtain ⟨hz, hz15⟩ := qfa_zone n r c hn hr hc
  have hq := qva_zone n r c
  have hq18 := qva_lt n r c hn
  have hfz := fin_zone n r c hn hr hc
  by_cases c1 : 0 ≤ qfa n r c
  · have hzz := hz.1 c1
    have hqn : ¬ 0 ≤ qva n r c := by rw [hq]; omega
    rw [if_neg (fun h => hqn h.1), if_pos ⟨c1, hz15⟩, if_pos (by unfold giv; omega)]
    unfold pat bitI
    rw [if_pos c1]
  have hzz : ¬ (c = 8 ∧ r ≤ 8 ∧ r ≠ 6 ∨ r = 8 ∧ c ≤ 8 ∧ c ≠ 6 ∨ r = 8 ∧ n - 8 ≤ c ∨ c = 8 ∧ n - 7 ≤ r) := fun h => c1 (hz.2 h)
  have hqf : ¬ (0 ≤ qfa n r c ∧ qfa n r c < 15) := fun h => c1 h.1
  rw [if_neg hqf]
  unfold pat
  rw [if_neg c1]
  clear hz hz15 hqf c1
  by_cases c2 : r = n - 8 ∧ c = 8
  · have ha1 : a = -1 := by
      rcases ha with h | ⟨_, _, h⟩
      · exact h
      · unfold clr at h; omega
    have hqn : ¬ 0 ≤ qva n r c := by rw [hq]; omega
    have hF : F = 1 := by rw [e3, ha1, if_neg (by omega)]; unfold f2; rw [if_pos c2]
    rw [if_neg (fun h => hqn h.1), if_neg (by omega), if_pos (by unfold giv; omega), if_pos c2, hF]; rfl
  rw [if_neg c2]
  by_cases c3 : fin3 n r c ≤ 4
  · have hf := hfz.1 c3
    have ha1 : a = -1 := by
      rcases ha with h | ⟨_, _, h⟩
      · exact h
      · unfold clr at h; omega
    have hqn : ¬ 0 ≤ qva n r c := by rw [hq]; omega
    have hF : F = if fin3 n r c = 2 ∨ fin3 n r c = 4 then 0 else 1 := by rw [e3, ha1, if_neg (by omega)]; unfold f2 f1; rw [if_neg c2, if_pos c3]
    have hF0 : F = 0 ∨ F = 1 := by rw [hF]; split <;> simp
    rw [if_neg (fun h => hqn h.1), if_neg (by omega), if_pos (by unfold giv; omega), if_pos c3, hF]
    by_cases h : fin3 n r c = 2 ∨ fin3 n r c = 4
    · rw [if_pos h, if_neg (by simp; omega)]
    · rw [if_neg h, if_pos (by simp; omega)]
  rw [if_neg c3]
  have hf : ¬ ((r ≤ 7 ∧ c ≤ 7) ∨ (r ≤ 7 ∧ n - 8 ≤ c) ∨ (n - 8 ≤ r ∧ c ≤ 7)) := fun h => c3 (hfz.2 h)
  by_cases c4 : 0 ≤ a
  · have hcl : clr n r c := by
      rcases ha with h | ⟨_, _, h⟩
      · omega
      · exact h
    unfold clr at hcl
    have hqn : ¬ 0 ≤ qva n r c := by rw [hq]; omega
    rw [if_pos c4] at e3
    have hF0 : F = 0 ∨ F = 1 := by rw [e3]; split <;> simp
    rw [if_neg (fun h => hqn h.1), if_neg (by omega), if_pos (by unfold giv; omega), if_pos c4, e3]
    by_cases h : a = 1
    · rw [if_pos h, if_neg (by simp; omega)]
    · rw [if_neg h, if_pos (by simp; omega)]
  have hF : F = -1 := by rw [e3, if_neg c4]; unfold f2 f1; rw [if_neg c2, if_neg c3]
  rw [if_neg c4]
  by_cases c5 : r = 6 ∨ c = 6
  · have hqn : ¬ 0 ≤ qva n r c := by rw [hq]; omega
    rw [if_neg (fun h => hqn h.1), if_pos (by omega), if_pos (by unfold giv; omega), if_pos c5]
    by_cases h : (r + c) % 2 = 0
    · rw [if_pos (by simpa using h)]; omega
    · rw [if_neg (by simpa using h)]; omega
  rw [if_neg c5]
  by_cases c6 : 0 ≤ qva n r c ∧ 7 ≤ v
  · have hqq := hq.1 c6.1
    have h45 := hv.1 c6.2
    rw [if_pos ⟨c6.1, by rw [if_pos c6.2]; exact hq18⟩, if_pos (by unfold giv; omega)]
    have hbit : bitI y (qva n r c).toNat = if (if r < c then y.testBit (r * 3 + c + 11 - n) else y.testBit (c * 3 + r + 11 - n)) = true then 1 else 0 := by
      by_cases hrc : r < c
      · have : (qva n r c).toNat = r * 3 + c + 11 - n := by
          unfold qva; rw [if_neg (by omega), if_pos (by omega)]; omega
        rw [this, if_pos hrc]; rfl
      · have : (qva n r c).toNat = c * 3 + r + 11 - n := by
          unfold qva; rw [if_pos (by omega)]; omega
        rw [this, if_neg hrc]; rfl
    exact hbit
  · have hng : ¬ giv v n a r c := by
      unfold giv
      intro hg
      have hq2 : 7 ≤ v → ¬ (c ≤ 5 ∧ n - 11 ≤ r ∧ r ≤ n - 9 ∨ r ≤ 5 ∧ n - 11 ≤ c ∧ c ≤ n - 9) := fun h7 h => c6 ⟨hq.2 h, h7⟩
      by_cases h7 : 7 ≤ v
      · have := hq2 h7; omega
      · omega
    rw [if_neg (show ¬ (0 ≤ qva n r c ∧ qva n r c < (if 7 ≤ v then 18 else 0)) from fun h => c6 ⟨h.1, by
      have h2 := h.2
      by_cases h7 : 7 ≤ v
      · exact h7
      · rw [if_neg h7] at h2; omega⟩), if_neg (by omega), if_neg hng, hF]
theorem base_eq (v x y r c : Nat) (h1 : 1 ≤ v) (h2 : v ≤ 40) (hr : r < dimOf v) (hc : c < dimOf v) :
    base v x y r c = if giv v (dimOf v) (al (cenOf v) (manyOf v) r c) r c then (if pat (dimOf v) x y (al (cenOf v) (manyOf v) r c) r c then 1 else 0) else -1 := by
  have hm := mid_ver v h1 h2
  exact chain v (dimOf v) x y r c _ _ hm.n21 (by unfold dimOf; omega) hr hc (hm.al_cases hr hc) (hm.f3_al (f2 (dimOf v)) r c)
end Go.Qz.QK
