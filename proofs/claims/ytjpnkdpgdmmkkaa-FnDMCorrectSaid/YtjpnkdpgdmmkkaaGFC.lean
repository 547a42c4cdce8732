/-
  Plain facts on polynomials over a field, by their coefficients: sums, products, division. No program in sight.
-/
import Derived.Test.YtjpnkdpgdmmkkaaGFM
import Derived.Test.YtjpnkdpgdmmkkaaGFS
namespace Go.Qz.RS
open Go.Qz
set_option linter.unusedVariables false

/-- The sum of the first ones. -/
def xs (f : Nat → Nat) : Nat → Nat
  | 0 => 0
  | n + 1 => xs f n ^^^ f n
theorem xs_congr {f g : Nat → Nat} : ∀ {n : Nat}, (∀ i, i < n → f i = g i) → xs f n = xs g n
  | 0, _ => rfl
  | n + 1, h => by
    show xs f n ^^^ f n = xs g n ^^^ g n
    rw [xs_congr (n := n) (fun i hi => h i (by omega)), h n (by omega)]
theorem xor4 (a b c d : Nat) : (a ^^^ b) ^^^ (c ^^^ d) = (a ^^^ c) ^^^ (b ^^^ d) := by
  rw [Nat.xor_assoc, Nat.xor_assoc, ← Nat.xor_assoc b, Nat.xor_comm b c, Nat.xor_assoc c]
theorem xs_xor (f g : Nat → Nat) : ∀ n, xs (fun i => f i ^^^ g i) n = xs f n ^^^ xs g n
  | 0 => by simp [xs]
  | n + 1 => by
    show xs (fun i => f i ^^^ g i) n ^^^ (f n ^^^ g n) = (xs f n ^^^ f n) ^^^ (xs g n ^^^ g n)
    rw [xs_xor f g n, xor4]
theorem xs_zero {f : Nat → Nat} : ∀ {n : Nat}, (∀ i, i < n → f i = 0) → xs f n = 0
  | 0, _ => rfl
  | n + 1, h => by
    show xs f n ^^^ f n = 0
    rw [xs_zero (n := n) (fun i hi => h i (by omega)), h n (by omega)]; rfl
theorem xs_lt {F : Fld} (h : Six F) {f : Nat → Nat} : ∀ {n : Nat}, (∀ i, i < n → f i < F.size) → xs f n < F.size
  | 0, _ => by have := h.bounds; show 0 < F.size; omega
  | n + 1, hf => xor_lt_size h (xs_lt h (n := n) (fun i hi => hf i (by omega))) (hf n (by omega))
theorem xs_ext {f : Nat → Nat} {m : Nat} : ∀ {n : Nat}, m ≤ n → (∀ i, m ≤ i → i < n → f i = 0) → xs f n = xs f m
  | 0, h, _ => by have : m = 0 := by omega
                  rw [this]
  | n + 1, h, hz => by
    by_cases e : m = n + 1
    · rw [e]
    · show xs f n ^^^ f n = xs f m
      rw [xs_ext (n := n) (by omega) (fun i h1 h2 => hz i h1 (by omega)), hz n (by omega) (by omega), Nat.xor_zero]
theorem xs_one {f : Nat → Nat} {k n : Nat} (hk : k < n) (h : ∀ i, i < n → i ≠ k → f i = 0) : xs f n = f k := by
  rw [xs_ext (m := k + 1) (by omega) (fun i h1 h2 => h i h2 (by omega))]
  show xs f k ^^^ f k = f k
  rw [xs_zero (fun i hi => h i (by omega) (by omega)), Nat.zero_xor]
theorem xs_front (f : Nat → Nat) : ∀ n, xs f (n + 1) = f 0 ^^^ xs (fun i => f (i + 1)) n
  | 0 => by show 0 ^^^ f 0 = f 0 ^^^ 0; rw [Nat.zero_xor, Nat.xor_zero]
  | n + 1 => by
    show xs f (n + 1) ^^^ f (n + 1) = f 0 ^^^ (xs (fun i => f (i + 1)) n ^^^ f (n + 1))
    rw [xs_front f n, Nat.xor_assoc]
theorem xs_rev (f : Nat → Nat) : ∀ n, xs f n = xs (fun i => f (n - 1 - i)) n
  | 0 => rfl
  | n + 1 => by
    rw [xs_front (fun i => f (n + 1 - 1 - i)) n]
    show xs f n ^^^ f n = _
    rw [xs_rev f n, Nat.xor_comm]
    congr 1
    exact xs_congr fun i hi => by show f _ = f _; congr 1; omega
theorem mul_xs_left {F : Fld} (h : Six F) {f : Nat → Nat} (c : Nat) : ∀ {n : Nat}, (∀ i, i < n → f i < F.size) → mul F (xs f n) c = xs (fun i => mul F (f i) c) n
  | 0, _ => zero_mul h c
  | n + 1, hf => by
    show mul F (xs f n ^^^ f n) c = xs (fun i => mul F (f i) c) n ^^^ mul F (f n) c
    rw [mul_xor_left h (xs_lt h (fun i hi => hf i (by omega))) (hf n (by omega)), mul_xs_left h c (n := n) (fun i hi => hf i (by omega))]
theorem mul_xs_right {F : Fld} (h : Six F) {f : Nat → Nat} {a : Nat} (ha : a < F.size) : ∀ {n : Nat}, mul F a (xs f n) = xs (fun i => mul F a (f i)) n
  | 0 => mul_zero h ha
  | n + 1 => by
    show mul F a (xs f n ^^^ f n) = xs (fun i => mul F a (f i)) n ^^^ mul F a (f n)
    rw [mul_xor_right h ha, mul_xs_right h ha (n := n)]

/-- The coefficient of a power. -/
def co (l : List Nat) (n : Nat) : Nat := if n < l.length then nth l (l.length - 1 - n) else 0
/-- All are elements. -/
def El (F : Fld) (l : List Nat) : Prop := ∀ j, nth l j < F.size
theorem co_lt {F : Fld} {l : List Nat} (h : El F l) (n : Nat) : co l n < F.size := by
  unfold co
  split
  · exact h _
  · have := h 0; omega
theorem co_past {l : List Nat} {n : Nat} (h : l.length ≤ n) : co l n = 0 := by unfold co; rw [if_neg (by omega)]
theorem nth_past {l : List Nat} {n : Nat} (h : l.length ≤ n) : nth l n = 0 := by unfold nth; rw [List.getD_eq_getElem?_getD, List.getElem?_eq_none h]; rfl
theorem nth_cons (a : Nat) (l : List Nat) (j : Nat) : nth (a :: l) j = if j = 0 then a else nth l (j - 1) := by
  cases j with
  | zero => rfl
  | succ j => rw [if_neg (by omega)]; rfl
theorem nth_append (a b : List Nat) (j : Nat) : nth (a ++ b) j = if j < a.length then nth a j else nth b (j - a.length) := by
  unfold nth
  rw [List.getD_eq_getElem?_getD, List.getElem?_append]
  split <;> rw [List.getD_eq_getElem?_getD]
theorem nth_map (f : Nat → Nat) (l : List Nat) (j : Nat) (hj : j < l.length) : nth (l.map f) j = f (nth l j) := by
  rw [nth_eq (by simpa using hj), nth_eq hj, List.getElem_map]
theorem co_cons (a : Nat) (l : List Nat) (n : Nat) : co (a :: l) n = if n = l.length then a else co l n := by
  unfold co
  rw [List.length_cons, nth_cons]
  by_cases h : n = l.length
  · subst h
    rw [if_pos (by omega), if_pos rfl, if_pos (by omega)]
  · rw [if_neg h]
    by_cases h2 : n < l.length
    · rw [if_pos (by omega), if_pos h2, if_neg (by omega)]
      congr 1; omega
    · rw [if_neg (by omega), if_neg h2]
theorem co_tidy : ∀ (l : List Nat) (n : Nat), co (tidy l) n = co l n
  | [], n => rfl
  | [a], n => rfl
  | a :: b :: t, n => by
    unfold tidy
    split
    · rename_i h
      subst h
      rw [co_tidy (b :: t) n, co_cons 0 (b :: t)]
      split
      · rename_i h; subst h; exact co_past (Nat.le_refl _)
      · rfl
    · rfl
theorem tidy_top {l : List Nat} (h : tidy l = l) (h2 : l ≠ []) (h3 : l ≠ [0]) : nth l 0 ≠ 0 := by
  intro h4
  rw [← h] at h4
  exact h3 (by rw [← h]; exact tidy_head l h2 h4)
theorem co_top {l : List Nat} (h : tidy l = l) (h2 : l ≠ []) (h3 : l ≠ [0]) : co l (l.length - 1) ≠ 0 := by
  have hl := List.length_pos_iff.2 h2
  unfold co
  rw [if_pos (by omega), show l.length - 1 - (l.length - 1) = 0 by omega]
  exact tidy_top h h2 h3
theorem co_ext_le {a b : List Nat} (hb : tidy b = b) (hbn : b ≠ []) (h : ∀ n, co a n = co b n) (ha : 1 ≤ a.length) : b.length ≤ a.length := by
  rcases Nat.lt_or_ge a.length b.length with hlt | hle
  · exfalso
    have h0 : b ≠ [0] := by intro e; rw [e] at hlt; have : ([0] : List Nat).length = 1 := rfl; omega
    exact co_top hb hbn h0 (by rw [← h]; exact co_past (by omega))
  · exact hle
/-- Tidy polynomials with the same coefficients are the same. -/
theorem co_ext {a b : List Nat} (ha : tidy a = a) (hb : tidy b = b) (han : a ≠ []) (hbn : b ≠ []) (h : ∀ n, co a n = co b n) : a = b := by
  have l1 := co_ext_le hb hbn h (List.length_pos_iff.2 han)
  have l2 := co_ext_le ha han (fun n => (h n).symm) (List.length_pos_iff.2 hbn)
  have hl : a.length = b.length := by omega
  apply List.ext_getElem hl
  intro i h1 h2
  have := h (a.length - 1 - i)
  unfold co at this
  rw [if_pos (by omega), if_pos (by omega), show a.length - 1 - (a.length - 1 - i) = i by omega, show b.length - 1 - (a.length - 1 - i) = i by omega, nth_eq h1, nth_eq h2] at this
  exact this
theorem tidy_le {l : List Nat} {k : Nat} (hk : 1 ≤ k) (hl : l ≠ []) (h : ∀ n, k ≤ n → co l n = 0) : (tidy l).length ≤ k := by
  rcases Nat.lt_or_ge k (tidy l).length with h1 | h1
  · exfalso
    have hne := tidy_ne l hl
    have h0 : tidy l ≠ [0] := by intro e; rw [e] at h1; simp at h1; omega
    exact co_top (tidy_tidy l) hne h0 (by rw [co_tidy]; exact h _ (by omega))
  · exact h1
theorem El.tidy {F : Fld} {l : List Nat} (h : El F l) : El F (tidy l) := by
  intro j
  have hs := h l.length
  by_cases hj : j < (RS.tidy l).length
  · have := co_lt h ((RS.tidy l).length - 1 - j)
    rw [← co_tidy] at this
    unfold co at this
    rw [if_pos (by omega), show (RS.tidy l).length - 1 - ((RS.tidy l).length - 1 - j) = j by omega] at this
    exact this
  · rw [nth_past (by omega)]; omega

theorem co_rawTo (a b : List Nat) (N n : Nat) (ha : a.length ≤ N) (hb : b.length ≤ N) : co (rawTo a b N N) n = co a n ^^^ co b n := by
  unfold co
  rw [rawTo_length]
  by_cases hn : n < N
  · rw [if_pos hn, rawTo_nth _ _ _ _ _ (by omega), if_pos (by omega)]
    congr 1
    · unfold pat
      by_cases h : n < a.length
      · rw [if_pos (by omega), if_pos h]; congr 1; omega
      · rw [if_neg (by omega), if_neg h]
    · unfold pat
      by_cases h : n < b.length
      · rw [if_pos (by omega), if_pos h]; congr 1; omega
      · rw [if_neg (by omega), if_neg h]
  · rw [if_neg hn, if_neg (by omega), if_neg (by omega)]; rfl
theorem co_plus (a b : List Nat) (n : Nat) : co (plus a b) n = co a n ^^^ co b n := by
  unfold plus
  rw [co_tidy, co_rawTo _ _ _ _ (by omega) (by omega)]
theorem plus_ne {a b : List Nat} (h : a ≠ [] ∨ b ≠ []) : plus a b ≠ [] := by
  refine tidy_ne _ (fun e => ?_)
  have := congrArg List.length e
  rw [rawTo_length, List.length_nil] at this
  rcases h with h | h
  · have := List.length_pos_iff.2 h; omega
  · have := List.length_pos_iff.2 h; omega
theorem plus_tidy (a b : List Nat) : tidy (plus a b) = plus a b := tidy_tidy _
theorem plus_el {F : Fld} (h : Six F) {a b : List Nat} (ha : El F a) (hb : El F b) : El F (plus a b) := by
  refine El.tidy fun j => ?_
  have hs := h.bounds
  by_cases hj : j < max a.length b.length
  · rw [rawTo_nth _ _ _ _ _ hj, if_pos hj]
    refine xor_lt_size h ?_ ?_
    · unfold pat; split
      · exact ha _
      · omega
    · unfold pat; split
      · exact hb _
      · omega
  · rw [nth_past (by rw [rawTo_length]; omega)]; omega
theorem plus_length (a b : List Nat) : (plus a b).length ≤ max a.length b.length := Nat.le_trans (tidy_length _) (by rw [rawTo_length]; exact Nat.le_refl _)

/-- A coefficient of a product. -/
def pm (F : Fld) (a b : Nat → Nat) (n : Nat) : Nat := xs (fun i => mul F (a i) (b (n - i))) (n + 1)
/-- The product's list, a row so far. -/
def prow (F : Fld) (a b : List Nat) (i : Nat) (o : List Nat) : Nat → List Nat
  | 0 => o
  | k + 1 => (prow F a b i o k).set (i + k) (nth (prow F a b i o k) (i + k) ^^^ mul F (nth a i) (nth b k))
/-- The product's list, so far. -/
def prows (F : Fld) (a b : List Nat) : Nat → List Nat
  | 0 => List.replicate (a.length + b.length - 1) 0
  | i + 1 => prow F a b i (prows F a b i) b.length
/-- The product of two polynomials. -/
def prod (F : Fld) (a b : List Nat) : List Nat := tidy (prows F a b a.length)
theorem prow_length (F : Fld) (a b : List Nat) (i : Nat) (o : List Nat) : ∀ k, (prow F a b i o k).length = o.length
  | 0 => rfl
  | k + 1 => by rw [prow, List.length_set, prow_length F a b i o k]
theorem prows_length (F : Fld) (a b : List Nat) : ∀ i, (prows F a b i).length = a.length + b.length - 1
  | 0 => by simp [prows]
  | i + 1 => by rw [prows, prow_length, prows_length F a b i]
theorem prow_nth (F : Fld) (a b : List Nat) (i : Nat) (o : List Nat) (j : Nat) : ∀ k, i + k ≤ o.length → nth (prow F a b i o k) j = if i ≤ j ∧ j < i + k then nth o j ^^^ mul F (nth a i) (nth b (j - i)) else nth o j
  | 0, _ => by rw [if_neg (by omega)]; rfl
  | k + 1, h => by
    rw [prow, nth_set (by rw [prow_length]; omega)]
    by_cases e : j = i + k
    · rw [if_pos e, if_pos (by omega), prow_nth F a b i o (i + k) k (by omega), if_neg (by omega), e, show i + k - i = k by omega]
    · rw [if_neg e, prow_nth F a b i o j k (by omega)]
      by_cases h2 : i ≤ j ∧ j < i + k
      · rw [if_pos h2, if_pos (by omega)]
      · rw [if_neg h2, if_neg (by omega)]
theorem prows_nth (F : Fld) (a b : List Nat) (j : Nat) : ∀ i, i ≤ a.length → nth (prows F a b i) j = xs (fun i => if i ≤ j ∧ j < i + b.length then mul F (nth a i) (nth b (j - i)) else 0) i
  | 0, _ => by rw [prows, nth_replicate]; split <;> rfl
  | i + 1, h => by
    rw [prows, prow_nth _ _ _ _ _ _ _ (by rw [prows_length]; omega), prows_nth F a b j i (by omega)]
    show _ = xs _ i ^^^ (if i ≤ j ∧ j < i + b.length then mul F (nth a i) (nth b (j - i)) else 0)
    split
    · rfl
    · rw [Nat.xor_zero]
theorem co_prows {F : Fld} (h : Six F) {a b : List Nat} (ha : El F a) (hb : El F b) (han : a ≠ []) (hbn : b ≠ []) (n : Nat) : co (prows F a b a.length) n = pm F (co a) (co b) n := by
  have hal := List.length_pos_iff.2 han
  have hbl := List.length_pos_iff.2 hbn
  have hzl : ∀ i, a.length ≤ i → mul F (co a i) (co b (n - i)) = 0 := fun i hi => by rw [co_past hi]; exact zero_mul h _
  have hzr : ∀ i, b.length ≤ n - i → mul F (co a i) (co b (n - i)) = 0 := fun i hi => by rw [co_past hi]; exact mul_zero h (co_lt ha _)
  unfold pm
  by_cases hn : n < a.length + b.length - 1
  · have e1 : co (prows F a b a.length) n = xs (fun i => if i ≤ a.length + b.length - 1 - 1 - n ∧ a.length + b.length - 1 - 1 - n < i + b.length then mul F (nth a i) (nth b (a.length + b.length - 1 - 1 - n - i)) else 0) a.length := by
      rw [co, prows_length, if_pos hn, prows_nth _ _ _ _ _ (Nat.le_refl _)]
    rw [e1, xs_rev]
    have e2 : ∀ i, i < a.length → (if a.length - 1 - i ≤ a.length + b.length - 1 - 1 - n ∧ a.length + b.length - 1 - 1 - n < a.length - 1 - i + b.length then mul F (nth a (a.length - 1 - i)) (nth b (a.length + b.length - 1 - 1 - n - (a.length - 1 - i))) else 0) = if i ≤ n then mul F (co a i) (co b (n - i)) else 0 := by
      intro i hi
      by_cases h1 : i ≤ n
      · rw [if_pos h1]
        by_cases h2 : n - i < b.length
        · rw [if_pos (by omega)]
          congr 1
          · unfold co; rw [if_pos hi]
          · unfold co; rw [if_pos h2]; congr 1; omega
        · rw [hzr i (by omega), if_neg (by omega)]
      · rw [if_neg h1, if_neg (by omega)]
    rw [xs_congr e2]
    have e3 : xs (fun i => mul F (co a i) (co b (n - i))) (n + 1) = xs (fun i => if i ≤ n then mul F (co a i) (co b (n - i)) else 0) (n + 1) := xs_congr fun i hi => by rw [if_pos (by omega)]
    rw [e3]
    by_cases hc : a.length ≤ n + 1
    · exact (xs_ext hc fun i h1 h2 => by rw [if_pos (by omega)]; exact hzl i h1).symm
    · exact xs_ext (by omega) fun i h1 h2 => if_neg (by omega)
  · rw [co_past (by rw [prows_length]; omega)]
    refine (xs_zero fun i hi => ?_).symm
    by_cases h1 : a.length ≤ i
    · exact hzl i h1
    · exact hzr i (by omega)
theorem prows_ne {F : Fld} {a b : List Nat} (han : a ≠ []) (hbn : b ≠ []) (i : Nat) : prows F a b i ≠ [] := by
  have hal := List.length_pos_iff.2 han
  have hbl := List.length_pos_iff.2 hbn
  intro e
  have := congrArg List.length e
  rw [prows_length, List.length_nil] at this
  omega
theorem co_prod {F : Fld} (h : Six F) {a b : List Nat} (ha : El F a) (hb : El F b) (han : a ≠ []) (hbn : b ≠ []) (n : Nat) : co (prod F a b) n = pm F (co a) (co b) n := by
  unfold prod; rw [co_tidy, co_prows h ha hb han hbn]
theorem prod_tidy (F : Fld) (a b : List Nat) : tidy (prod F a b) = prod F a b := tidy_tidy _
theorem prod_ne {F : Fld} {a b : List Nat} (han : a ≠ []) (hbn : b ≠ []) : prod F a b ≠ [] := tidy_ne _ (prows_ne han hbn _)
theorem prod_length (F : Fld) (a b : List Nat) : (prod F a b).length ≤ a.length + b.length - 1 := Nat.le_trans (tidy_length _) (by rw [prows_length]; exact Nat.le_refl _)
theorem prow_lt {F : Fld} (h : Six F) {a b : List Nat} (ha : El F a) (hb : El F b) (i : Nat) (o : List Nat) (ho : El F o) (k : Nat) (hk : i + k ≤ o.length) : El F (prow F a b i o k) := by
  intro j
  rw [prow_nth _ _ _ _ _ _ _ hk]
  split
  · exact xor_lt_size h (ho _) (mul_lt h (ha _))
  · exact ho _
theorem prows_el {F : Fld} (h : Six F) {a b : List Nat} (ha : El F a) (hb : El F b) : ∀ i, i ≤ a.length → El F (prows F a b i)
  | 0, _ => fun j => by have := h.bounds; rw [prows, nth_replicate]; split <;> omega
  | i + 1, hi => prow_lt h ha hb i _ (prows_el h ha hb i (by omega)) _ (by rw [prows_length]; omega)
theorem prod_el {F : Fld} (h : Six F) {a b : List Nat} (ha : El F a) (hb : El F b) : El F (prod F a b) := (prows_el h ha hb _ (Nat.le_refl _)).tidy

theorem pm_xor_left {F : Fld} (h : Six F) {a a' b : Nat → Nat} (ha : ∀ n, a n < F.size) (ha' : ∀ n, a' n < F.size) (n : Nat) : pm F (fun i => a i ^^^ a' i) b n = pm F a b n ^^^ pm F a' b n := by
  unfold pm
  rw [← xs_xor]
  exact xs_congr fun i _ => mul_xor_left h (ha i) (ha' i) _
theorem pm_xor_right {F : Fld} (h : Six F) {a b b' : Nat → Nat} (ha : ∀ n, a n < F.size) (n : Nat) : pm F a (fun i => b i ^^^ b' i) n = pm F a b n ^^^ pm F a b' n := by
  unfold pm
  rw [← xs_xor]
  exact xs_congr fun i _ => mul_xor_right h (ha i) _ _
/-- One power with a coefficient. -/
def mon (k c : Nat) (n : Nat) : Nat := if n = k then c else 0
/-- A polynomial times one power with a coefficient. -/
def shf (F : Fld) (b : Nat → Nat) (k c : Nat) (n : Nat) : Nat := if k ≤ n then mul F (b (n - k)) c else 0
theorem pm_mon_left {F : Fld} (h : Six F) {b : Nat → Nat} (hb : ∀ n, b n < F.size) (k : Nat) {c : Nat} (hc : c < F.size) (n : Nat) : pm F (mon k c) b n = shf F b k c n := by
  unfold pm shf
  split
  · rename_i hk
    rw [xs_one (k := k) (by omega) (fun i _ hi => by unfold mon; rw [if_neg hi]; exact zero_mul h _)]
    unfold mon
    rw [if_pos rfl]
    exact mul_comm h hc (hb _)
  · rename_i hk
    exact xs_zero fun i hi => by unfold mon; rw [if_neg (by omega)]; exact zero_mul h _
/-- The list of one power with a coefficient. -/
def monL (k c : Nat) : List Nat := if c = 0 then [0] else c :: List.replicate k 0
theorem co_zeros (k n : Nat) : co (List.replicate k 0) n = 0 := by
  unfold co
  rw [nth_replicate]
  split
  · split <;> rfl
  · rfl
theorem co_monL (k c n : Nat) : co (monL k c) n = mon k c n := by
  unfold monL mon
  split
  · rename_i h; subst h
    rw [co_cons]; split
    · split <;> rfl
    · split <;> exact co_past (by simp)
  · rw [co_cons, List.length_replicate, co_zeros]
theorem monL_tidy (k c : Nat) : tidy (monL k c) = monL k c := by
  unfold monL
  split
  · rfl
  · rename_i h
    cases k with
    | zero => rfl
    | succ k => rw [List.replicate_succ, tidy, if_neg h]
theorem monL_ne (k c : Nat) : monL k c ≠ [] := by unfold monL; split <;> simp
theorem monL_el {F : Fld} (h : Six F) (k : Nat) {c : Nat} (hc : c < F.size) : El F (monL k c) := by
  intro j
  have hs := h.bounds
  unfold monL
  split
  · rw [nth_cons]; split
    · omega
    · rw [nth_past (by simp)]; omega
  · rw [nth_cons]; split
    · exact hc
    · rw [nth_replicate]; split <;> omega
theorem monL_length (k c : Nat) : (monL k c).length ≤ k + 1 := by unfold monL; split <;> simp
/-- The list of a polynomial times one power with a coefficient. -/
def shfL (F : Fld) (l : List Nat) (k c : Nat) : List Nat := if c = 0 then [0] else tidy (l.map (fun x => mul F x c) ++ List.replicate k 0)
theorem co_shfL {F : Fld} (h : Six F) {l : List Nat} (hl : El F l) (k c n : Nat) : co (shfL F l k c) n = shf F (co l) k c n := by
  unfold shfL shf
  split
  · rename_i h0; subst h0
    rw [mul_zero h (co_lt hl _), co_cons]
    split
    · split <;> rfl
    · split <;> exact co_past (by simp)
  · rw [co_tidy]
    unfold co
    rw [List.length_append, List.length_map, List.length_replicate, nth_append, List.length_map]
    by_cases h1 : k ≤ n
    · rw [if_pos h1]
      by_cases h2 : n - k < l.length
      · rw [if_pos (by omega), if_pos (by omega), if_pos h2, nth_map _ _ _ (by omega)]
        congr 2; omega
      · rw [if_neg (by omega), if_neg h2]; exact (zero_mul h c).symm
    · rw [if_neg h1, nth_replicate]
      split
      · split
        · omega
        · split <;> rfl
      · rfl
theorem shfL_tidy (F : Fld) (l : List Nat) (k c : Nat) : tidy (shfL F l k c) = shfL F l k c := by
  unfold shfL; split
  · rfl
  · exact tidy_tidy _
theorem shfL_ne {F : Fld} {l : List Nat} (hl : l ≠ []) (k c : Nat) : shfL F l k c ≠ [] := by
  unfold shfL; split
  · simp
  · exact tidy_ne _ (by simp [hl])
theorem shfL_length (F : Fld) {l : List Nat} (hl : l ≠ []) (k c : Nat) : (shfL F l k c).length ≤ l.length + k := by
  have := List.length_pos_iff.2 hl
  unfold shfL; split
  · simp; omega
  · exact Nat.le_trans (tidy_length _) (by simp)
theorem shfL_el {F : Fld} (h : Six F) {l : List Nat} (hl : El F l) (k c : Nat) : El F (shfL F l k c) := by
  have hs := h.bounds
  unfold shfL; split
  · intro j; rw [nth_cons]; split
    · omega
    · rw [nth_past (by simp)]; omega
  · refine El.tidy fun j => ?_
    rw [nth_append]
    split
    · rename_i hj
      rw [nth_map _ _ _ (by simpa using hj)]; exact mul_lt h (hl _)
    · rw [nth_replicate]; split <;> omega

/-- What a division keeps: p is q times d and r. -/
structure Dv (F : Fld) (p d q r : List Nat) : Prop where
  qt : tidy q = q
  qn : q ≠ []
  qe : El F q
  ql : q.length ≤ p.length
  rt : tidy r = r
  rn : r ≠ []
  re : El F r
  rl : r.length ≤ p.length
  eq : ∀ n, pm F (co q) (co d) n ^^^ co r n = co p n
theorem Dv.start {F : Fld} (h : Six F) {p d : List Nat} (hp : tidy p = p) (hpn : p ≠ []) (hpe : El F p) (hd : El F d) : Dv F p d [0] p := by
  have hs := h.bounds
  refine ⟨rfl, by simp, fun j => ?_, List.length_pos_iff.2 hpn, hp, hpn, hpe, Nat.le_refl _, fun n => ?_⟩
  · rw [nth_cons]; split
    · omega
    · rw [nth_past (by simp)]; omega
  · have : pm F (co [0]) (co d) n = 0 := xs_zero fun i _ => by
      have : co [0] i = 0 := by rw [co_cons]; split
                                · rfl
                                · exact co_past (by simp)
      rw [this]; exact zero_mul h _
    rw [this, Nat.zero_xor]
/-- The leading coefficient's part. -/
def scale (F : Fld) (d r : List Nat) : Nat := mul F (nth r 0) (inv F (nth d 0))
theorem Dv.step {F : Fld} (h : Six F) {p d q r : List Nat} (hd : tidy d = d) (hdn : d ≠ []) (hde : El F d) (hd0 : d ≠ [0]) (v : Dv F p d q r) (hlen : d.length ≤ r.length) (hr0 : r ≠ [0]) :
    Dv F p d (plus q (monL (r.length - d.length) (scale F d r))) (plus r (shfL F d (r.length - d.length) (scale F d r))) ∧
      ((plus r (shfL F d (r.length - d.length) (scale F d r))).length < r.length ∨ plus r (shfL F d (r.length - d.length) (scale F d r)) = [0]) := by
  have hrl := List.length_pos_iff.2 v.rn
  have hdl := List.length_pos_iff.2 hdn
  have hinv := inv_lt h (nth d 0)
  have hsc : scale F d r < F.size := mul_lt h (v.re 0)
  have hk : ∃ k, k = r.length - d.length := ⟨_, rfl⟩
  obtain ⟨k, hk⟩ := hk
  rw [← hk]
  have hle := monL_el h k hsc
  have hse := shfL_el h hde k (scale F d r)
  have hmul : mul F (nth d 0) (scale F d r) = nth r 0 := by
    unfold scale
    rw [← mul_assoc h (hde 0) (v.re 0) hinv, mul_comm h (hde 0) (v.re 0), mul_assoc h (v.re 0) (hde 0) hinv, mul_inv h (hde 0) (tidy_top hd hdn hd0), mul_one h (v.re 0)]
  have htop : ∀ n, r.length - 1 ≤ n → co (plus r (shfL F d k (scale F d r))) n = 0 := by
    intro n hn
    rw [co_plus, co_shfL h hde]
    by_cases e : n = r.length - 1
    · subst e
      unfold shf co
      rw [if_pos (by omega), if_pos (by omega), if_pos (by omega), show r.length - 1 - (r.length - 1) = 0 by omega, show d.length - 1 - (r.length - 1 - k) = 0 by omega, hmul, Nat.xor_self]
    · rw [co_past (by omega)]
      unfold shf
      split
      · rw [co_past (by omega), zero_mul h]; rfl
      · rfl
  have hpn : plus r (shfL F d k (scale F d r)) ≠ [] := plus_ne (.inl v.rn)
  have hlen2 : (plus r (shfL F d k (scale F d r))).length ≤ max r.length (shfL F d k (scale F d r)).length := plus_length _ _
  have hsl := shfL_length F hdn k (scale F d r)
  have hml := monL_length k (scale F d r)
  have hpl := plus_length q (monL k (scale F d r))
  have := v.rl
  have := v.ql
  refine ⟨⟨plus_tidy _ _, plus_ne (.inl v.qn), plus_el h v.qe hle, by omega, plus_tidy _ _, hpn, plus_el h v.re hse, by omega, fun n => ?_⟩, ?_⟩
  · have e1 : pm F (co (plus q (monL k (scale F d r)))) (co d) n = pm F (co q) (co d) n ^^^ shf F (co d) k (scale F d r) n := by
      rw [show co (plus q (monL k (scale F d r))) = fun i => co q i ^^^ mon k (scale F d r) i from funext fun i => by rw [co_plus, co_monL]]
      rw [pm_xor_left h (co_lt v.qe) (fun n => by unfold mon; split <;> omega), pm_mon_left h (co_lt hde) k hsc]
    rw [e1, co_plus, co_shfL h hde, xor4, Nat.xor_self, Nat.xor_zero]; exact v.eq n
  · by_cases h1 : r.length = 1
    · right
      have h2 : (plus r (shfL F d k (scale F d r))).length ≤ 1 := by
        have := tidy_le (l := plus r (shfL F d k (scale F d r))) (k := 1) (by omega) hpn (fun n hn => htop n (by omega))
        rwa [plus_tidy] at this
      exact co_ext (plus_tidy _ _) rfl hpn (by simp) fun n => by
        rw [htop n (by omega), co_cons]
        split
        · rfl
        · exact (co_past (by simp)).symm
    · left
      have := tidy_le (l := plus r (shfL F d k (scale F d r))) (k := r.length - 1) (by omega) hpn htop
      rw [plus_tidy] at this
      omega
theorem Dv.law {F : Fld} (h : Six F) {p d q r : List Nat} (hp : tidy p = p) (hpn : p ≠ []) (hdn : d ≠ []) (hde : El F d) (v : Dv F p d q r) : plus (prod F q d) r = p :=
  co_ext (plus_tidy _ _) hp (plus_ne (.inr v.rn)) hpn fun n => by rw [co_plus, co_prod h v.qe hde v.qn hdn]; exact v.eq n
end Go.Qz.RS
