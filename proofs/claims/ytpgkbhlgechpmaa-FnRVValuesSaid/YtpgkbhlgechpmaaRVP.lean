/-
  Plain law for the values of widths (RSS): counting lists, binomials, the two ways of counting.
-/
namespace Go.Qz.RV

/-- f 1 + .. + f k. -/
def sumTo (f : Nat → Nat) : Nat → Nat
  | 0 => 0
  | k + 1 => sumTo f k + f (k + 1)
def many : Nat → Nat → Nat → Bool → Nat
  | 0, s, _, o => if s = 0 ∧ o = false then 1 else 0
  | e + 1, s, m, o => sumTo (fun w => many e (s - w) m (o && decide (1 < w))) (min m s)
def cmb (n : Nat) : Nat → Nat
  | 0 => 1
  | k + 1 => cmb n k * (n - k) / (k + 1)
def total : List Nat → Nat
  | [] => 0
  | w :: t => w + total t
def value : List Nat → Nat → Bool → Nat
  | [], _, _ => 0
  | w :: t, m, o => sumTo (fun v => many t.length (w + total t - v) m (o && decide (1 < v))) (w - 1) + value t m (o && decide (1 < w))
/-- what too wide elements take away -/
def less (r s m : Nat) : Nat → Nat
  | 0 => 0
  | k + 1 => less r s m k + cmb (s - (s - (r - 1) - k) - 1) (r - 2)
def term (r s m : Nat) (b : Bool) : Int :=
  let a : Int := cmb (s - 1) (r - 1)
  let c : Int := if b = true ∧ r ≤ s - r then a - cmb (s - (r + 1)) (r - 1) else a
  if 1 < r then c - (less r s m (s - (r - 1) - m) : Int) * r else if m < s then c - 1 else c
def termOk (r s m : Nat) (b : Bool) : Bool :=
  !(decide (s < 2 * m + r) && (!b || decide (s + 1 < m + 2 * r))) || decide (term r s m b = (many r s m b : Int))
theorem terms_all : ((List.range 5).all fun r => (List.range 23).all fun s => (List.range 9).all fun m => termOk (r + 1) (s + 1) (m + 1) true && termOk (r + 1) (s + 1) (m + 1) false) = true := by decide +kernel
theorem term_eq (r s m : Nat) (b : Bool) (hr : 1 ≤ r) (hr5 : r ≤ 5) (hs : 1 ≤ s) (hm : 1 ≤ m) (hm9 : m ≤ 9) (h1 : s < 2 * m + r) (h2 : b = true → s + 1 < m + 2 * r) : term r s m b = (many r s m b : Int) := by
  have h := List.all_eq_true.1 (List.all_eq_true.1 (List.all_eq_true.1 terms_all (r - 1) (by simp; omega)) (s - 1) (by simp; omega)) (m - 1) (by simp; omega)
  rw [show r - 1 + 1 = r by omega, show s - 1 + 1 = s by omega, show m - 1 + 1 = m by omega] at h
  have h3 : termOk r s m b = true := by
    rw [Bool.and_eq_true] at h
    cases b
    · exact h.2
    · exact h.1
  unfold termOk at h3
  simp only [Bool.or_eq_true, Bool.not_eq_true', Bool.and_eq_false_iff, decide_eq_false_iff_not, Bool.or_eq_false_iff, Bool.not_eq_false', decide_eq_true_eq] at h3
  rcases h3 with (h3 | h3) | h3
  · exact absurd h1 h3
  · exact absurd (h2 h3.1) h3.2
  · exact h3
def sumToI (f : Nat → Int) : Nat → Int
  | 0 => 0
  | k + 1 => sumToI f k + f (k + 1)
def goval : List Nat → Nat → Bool → Int
  | [], _, _ => 0
  | [_], _, _ => 0
  | w :: x :: t, m, b => sumToI (fun v => term (t.length + 1) (w + total (x :: t) - v) m (b && decide (1 < v))) (w - 1) + goval (x :: t) m (b && decide (1 < w))
theorem sumToI_eq (f : Nat → Int) (g : Nat → Nat) : ∀ k, (∀ j, 1 ≤ j → j ≤ k → f j = g j) → sumToI f k = (sumTo g k : Nat)
  | 0, _ => rfl
  | k + 1, h => by
    have h1 := sumToI_eq f g k (fun j a b => h j a (by omega))
    have h2 := h (k + 1) (by omega) (by omega)
    simp only [sumToI, sumTo, h1, h2]; omega
theorem sumTo_zero (g : Nat → Nat) : ∀ k, (∀ j, 1 ≤ j → j ≤ k → g j = 0) → sumTo g k = 0
  | 0, _ => rfl
  | k + 1, h => by
    have h1 := sumTo_zero g k (fun j a b => h j a (by omega))
    have h2 := h (k + 1) (by omega) (by omega)
    simp only [sumTo, h1, h2]
theorem length_le_total : ∀ (l : List Nat), (∀ x ∈ l, 1 ≤ x) → l.length ≤ total l
  | [], _ => by simp
  | a :: t, h => by
    have h1 := length_le_total t (fun x hx => h x (by simp [hx]))
    have h2 := h a (by simp)
    simp only [total, List.length_cons]; omega
/-- The two ways of counting agree wherever the standard asks. -/
theorem goval_eq (m : Nat) (hm : 1 ≤ m) (hm9 : m ≤ 9) : ∀ (l : List Nat) (o : Bool), (∀ x ∈ l, 1 ≤ x) → l.length ≤ 6 → total l < 2 * m + l.length → (o = true → total l + 1 < m + 2 * l.length) → goval l m o = (value l m o : Int)
  | [], _, _, _, _, _ => rfl
  | [w], o, _, _, _, _ => by
    simp only [goval, value, total, List.length_nil, Nat.add_zero]
    rw [sumTo_zero _ _ (fun j h1 h2 => by simp only [many]; rw [if_neg (by omega)])]
    rfl
  | w :: x :: t, o, h, hl, h1, h2 => by
    have hw := h w (by simp)
    have ht := length_le_total (x :: t) (fun y hy => h y (by simp [hy]))
    have ih := goval_eq m hm hm9 (x :: t) (o && decide (1 < w)) (fun y hy => h y (by simp [hy])) (by simp at hl ⊢; omega)
      (by simp only [total, List.length_cons] at h1 ⊢; omega)
      (by simp only [total, List.length_cons, Bool.and_eq_true, decide_eq_true_eq] at h1 h2 ⊢; intro hh; have := h2 hh.1; omega)
    rw [show goval (w :: x :: t) m o = sumToI (fun v => term (t.length + 1) (w + total (x :: t) - v) m (o && decide (1 < v))) (w - 1) + goval (x :: t) m (o && decide (1 < w)) from rfl,
      show value (w :: x :: t) m o = sumTo (fun v => many (x :: t).length (w + total (x :: t) - v) m (o && decide (1 < v))) (w - 1) + value (x :: t) m (o && decide (1 < w)) from rfl]
    rw [ih, sumToI_eq _ (fun v => many (x :: t).length (w + total (x :: t) - v) m (o && decide (1 < v)))]
    · omega
    · intro j hj1 hj2
      simp only [total, List.length_cons] at h1 h2 ht hl ⊢
      refine term_eq _ _ m _ (by omega) (by omega) (by omega) hm hm9 (by omega) ?_
      intro hh
      simp only [Bool.and_eq_true, decide_eq_true_eq] at hh
      have := h2 hh.1
      omega
end Go.Qz.RV
