/-
  Plain facts on values of polynomials over a field: of sums, of products, of the generator. No program in sight.
-/
import Derived.Test.YtiielblnmfeapaaGFC
namespace Go.Qz.RS
open Go.Qz
set_option linter.unusedVariables false

/-- The powers of an element. -/
def pw (F : Fld) (x : Nat) : Nat → Nat
  | 0 => 1
  | i + 1 => mul F (pw F x i) x
theorem pw_lt {F : Fld} (h : Six F) {x : Nat} : ∀ i, pw F x i < F.size
  | 0 => by have := h.bounds; show 1 < F.size; omega
  | i + 1 => mul_lt h (pw_lt h i)
theorem one_mul {F : Fld} (h : Six F) {a : Nat} (ha : a < F.size) : mul F 1 a = a := by
  have hs := h.bounds
  rw [mul_comm h (by omega) ha, mul_one h ha]
theorem pw_ex {F : Fld} (h : Six F) (j : Nat) : ∀ i, pw F (ex F j) i = ex F (j * i)
  | 0 => rfl
  | i + 1 => by
    show mul F (pw F (ex F j) i) (ex F j) = _
    rw [pw_ex h j i, mul_ex h, Nat.mul_succ]
theorem pw_add {F : Fld} (h : Six F) {x : Nat} (hx : x < F.size) (i : Nat) : ∀ j, pw F x (i + j) = mul F (pw F x i) (pw F x j)
  | 0 => (mul_one h (pw_lt h i)).symm
  | j + 1 => by
    show mul F (pw F x (i + j)) x = mul F (pw F x i) (mul F (pw F x j) x)
    rw [pw_add h hx i j, mul_assoc h (pw_lt h i) (pw_lt h j) hx]

/-- The value by the first coefficients. -/
def ve (F : Fld) (a : Nat → Nat) (x n : Nat) : Nat := xs (fun i => mul F (a i) (pw F x i)) n
/-- The value of a polynomial. -/
def ev (F : Fld) (l : List Nat) (x : Nat) : Nat := ve F (co l) x l.length
theorem ve_succ (F : Fld) (a : Nat → Nat) (x n : Nat) : ve F a x (n + 1) = ve F a x n ^^^ mul F (a n) (pw F x n) := rfl
theorem ve_congr {F : Fld} {a b : Nat → Nat} {x n : Nat} (h : ∀ i, i < n → a i = b i) : ve F a x n = ve F b x n := xs_congr fun i hi => by
  show mul F (a i) _ = mul F (b i) _
  rw [h i hi]
theorem ve_zero {F : Fld} (h : Six F) {a : Nat → Nat} {x n : Nat} (ha : ∀ i, i < n → a i = 0) : ve F a x n = 0 := xs_zero fun i hi => by
  show mul F (a i) _ = 0
  rw [ha i hi, zero_mul h]
theorem ve_lt {F : Fld} (h : Six F) {a : Nat → Nat} (ha : ∀ i, a i < F.size) (x n : Nat) : ve F a x n < F.size := xs_lt h fun i _ => mul_lt h (ha i)
theorem ve_ext {F : Fld} (h : Six F) {a : Nat → Nat} {x m n : Nat} (hmn : m ≤ n) (ha : ∀ i, m ≤ i → a i = 0) : ve F a x n = ve F a x m := xs_ext hmn fun i h1 _ => by
  show mul F (a i) _ = 0
  rw [ha i h1, zero_mul h]
theorem ve_xor {F : Fld} (h : Six F) {a b : Nat → Nat} (ha : ∀ i, a i < F.size) (hb : ∀ i, b i < F.size) (x n : Nat) : ve F (fun i => a i ^^^ b i) x n = ve F a x n ^^^ ve F b x n := by
  unfold ve
  rw [← xs_xor]
  exact xs_congr fun i _ => mul_xor_left h (ha i) (hb i) _
theorem ev_of_le {F : Fld} (h : Six F) {l : List Nat} {n : Nat} (hn : l.length ≤ n) (x : Nat) : ve F (co l) x n = ev F l x := ve_ext h hn fun i hi => co_past hi
theorem ev_congr {F : Fld} (h : Six F) {a b : List Nat} (hc : ∀ n, co a n = co b n) (x : Nat) : ev F a x = ev F b x := by
  rw [← ev_of_le h (Nat.le_max_left a.length b.length), ← ev_of_le h (Nat.le_max_right a.length b.length)]
  exact ve_congr fun i _ => hc i
theorem ev_lt {F : Fld} (h : Six F) {l : List Nat} (hl : El F l) (x : Nat) : ev F l x < F.size := ve_lt h (co_lt hl) x _
theorem ev_tidy {F : Fld} (h : Six F) (l : List Nat) (x : Nat) : ev F (tidy l) x = ev F l x := ev_congr h (co_tidy l) x
/-- The value of a list whose coefficients are sums. -/
theorem ev_sum {F : Fld} (h : Six F) {a b c : List Nat} (ha : El F a) (hb : El F b) (hc : ∀ n, co c n = co a n ^^^ co b n) (x : Nat) : ev F c x = ev F a x ^^^ ev F b x := by
  obtain ⟨N, hN⟩ : ∃ N, N = max c.length (max a.length b.length) := ⟨_, rfl⟩
  rw [← ev_of_le h (show c.length ≤ N by omega), ← ev_of_le h (show a.length ≤ N by omega), ← ev_of_le h (show b.length ≤ N by omega), ← ve_xor h (co_lt ha) (co_lt hb)]
  exact ve_congr fun i _ => hc i
theorem ev_plus {F : Fld} (h : Six F) {a b : List Nat} (ha : El F a) (hb : El F b) (x : Nat) : ev F (plus a b) x = ev F a x ^^^ ev F b x := ev_sum h ha hb (co_plus a b) x

theorem ve_shf {F : Fld} (h : Six F) {b : Nat → Nat} (hb : ∀ n, b n < F.size) (k : Nat) {c x : Nat} (hc : c < F.size) (hx : x < F.size) : ∀ m, ve F (shf F b k c) x (k + m) = mul F (mul F c (pw F x k)) (ve F b x m)
  | 0 => by
    rw [ve_zero h (fun i hi => by unfold shf; rw [if_neg (by omega)])]
    show 0 = mul F _ 0
    rw [mul_zero h (mul_lt h hc)]
  | m + 1 => by
    rw [← Nat.add_assoc, ve_succ, ve_shf h hb k hc hx m, ve_succ, mul_xor_right h (mul_lt h hc)]
    congr 1
    unfold shf
    rw [if_pos (by omega), show k + m - k = m by omega, pw_add h hx]
    have p1 := pw_lt h (x := x) k
    have p2 := pw_lt h (x := x) m
    rw [mul_assoc h (hb m) hc (mul_lt h p1), mul_assoc h hc p1 (mul_lt h (hb m)), mul_comm h (hb m) (mul_lt h hc), mul_assoc h hc (mul_lt h p1) (hb m), mul_assoc h p1 p2 (hb m), mul_comm h p2 (hb m)]

/-- The first ones of a list of coefficients. -/
def tr (a : Nat → Nat) (n i : Nat) : Nat := if i < n then a i else 0
theorem tr_lt {F : Fld} (h : Six F) {a : Nat → Nat} (ha : ∀ i, a i < F.size) (n i : Nat) : tr a n i < F.size := by
  unfold tr
  split
  · exact ha i
  · have := h.bounds; omega
theorem tr_succ (a : Nat → Nat) (n : Nat) : tr a (n + 1) = fun i => tr a n i ^^^ mon n (a n) i := by
  funext i
  unfold tr mon
  by_cases h1 : i < n
  · rw [if_pos (by omega), if_pos h1, if_neg (by omega), Nat.xor_zero]
  · by_cases h2 : i = n
    · subst h2
      rw [if_pos (by omega), if_neg h1, if_pos rfl, Nat.zero_xor]
    · rw [if_neg (by omega), if_neg h1, if_neg h2]; rfl
theorem mon_lt {F : Fld} (h : Six F) (k : Nat) {c : Nat} (hc : c < F.size) (n : Nat) : mon k c n < F.size := by
  unfold mon
  split
  · exact hc
  · omega
theorem pm_lt {F : Fld} (h : Six F) {a b : Nat → Nat} (ha : ∀ n, a n < F.size) (n : Nat) : pm F a b n < F.size := xs_lt h fun i _ => mul_lt h (ha i)
theorem pm_past {F : Fld} (h : Six F) {a b : Nat → Nat} {n m : Nat} (ha : ∀ i, a i < F.size) (han : ∀ i, n ≤ i → a i = 0) (hbm : ∀ j, m ≤ j → b j = 0) {k : Nat} (hk : n + m ≤ k + 1) (hn : 1 ≤ n) : pm F a b k = 0 ∨ k + 1 = n + m := by
  by_cases e : k + 1 = n + m
  · exact .inr e
  · left
    refine xs_zero fun i hi => ?_
    show mul F (a i) (b (k - i)) = 0
    by_cases h1 : i < n
    · rw [hbm _ (by omega), mul_zero h (ha i)]
    · rw [han i (by omega), zero_mul h]
theorem ve_pm_tr {F : Fld} (h : Six F) {a b : Nat → Nat} (ha : ∀ i, a i < F.size) (hb : ∀ i, b i < F.size) {x : Nat} (hx : x < F.size) {m : Nat} (hbm : ∀ j, m ≤ j → b j = 0) : ∀ n, ve F (pm F (tr a n) b) x (n + m) = mul F (ve F a x n) (ve F b x m)
  | 0 => by
    have hz : ∀ i, i < 0 + m → pm F (tr a 0) b i = 0 := fun i _ => xs_zero fun j _ => by
      show mul F (tr a 0 j) _ = 0
      rw [show tr a 0 j = 0 by unfold tr; rw [if_neg (by omega)], zero_mul h]
    rw [ve_zero h hz]
    show 0 = mul F 0 _
    rw [zero_mul h]
  | n + 1 => by
    have e1 : pm F (tr a (n + 1)) b = fun i => pm F (tr a n) b i ^^^ shf F b n (a n) i := by
      funext i
      rw [tr_succ, pm_xor_left h (tr_lt h ha n) (mon_lt h n (ha n)), pm_mon_left h hb n (ha n)]
    have sl : ∀ i, shf F b n (a n) i < F.size := fun i => by
      unfold shf; split
      · exact mul_lt h (hb _)
      · have := h.bounds; omega
    rw [e1, ve_xor h (pm_lt h (tr_lt h ha n)) sl]
    rw [show n + 1 + m = n + m + 1 by omega]
    have e2 : ve F (pm F (tr a n) b) x (n + m + 1) = ve F (pm F (tr a n) b) x (n + m) := by
      rw [ve_succ]
      have : pm F (tr a n) b (n + m) = 0 := xs_zero fun i hi => by
        show mul F (tr a n i) (b (n + m - i)) = 0
        by_cases h1 : i < n
        · rw [hbm _ (by omega), mul_zero h (tr_lt h ha n i)]
        · rw [show tr a n i = 0 by unfold tr; rw [if_neg h1], zero_mul h]
      rw [this, zero_mul h, Nat.xor_zero]
    have e3 : ve F (shf F b n (a n)) x (n + m + 1) = ve F (shf F b n (a n)) x (n + m) := by
      rw [ve_succ]
      have : shf F b n (a n) (n + m) = 0 := by
        unfold shf
        rw [if_pos (by omega), hbm _ (by omega), zero_mul h]
      rw [this, zero_mul h, Nat.xor_zero]
    rw [e2, e3, ve_pm_tr h ha hb hx hbm n, ve_shf h hb n (ha n) hx m, ve_succ, mul_xor_left h (ve_lt h ha x n) (mul_lt h (ha n))]
theorem tr_all {a : Nat → Nat} {n : Nat} (h : ∀ i, n ≤ i → a i = 0) : tr a n = a := by
  funext i
  unfold tr
  split
  · rfl
  · exact (h i (by omega)).symm
/-- The value of a list whose coefficients are those of a product. -/
theorem ev_mul {F : Fld} (h : Six F) {a b c : List Nat} (ha : El F a) (hb : El F b) (hc : ∀ n, co c n = pm F (co a) (co b) n) {x : Nat} (hx : x < F.size) : ev F c x = mul F (ev F a x) (ev F b x) := by
  have e := ve_pm_tr h (co_lt ha) (co_lt hb) hx (m := b.length) (fun j hj => co_past hj) a.length
  rw [tr_all (fun i hi => co_past hi)] at e
  show _ = mul F (ve F (co a) x a.length) (ve F (co b) x b.length)
  rw [← e]
  have hz : ∀ i, a.length + b.length ≤ i → pm F (co a) (co b) i = 0 := fun i hi => xs_zero fun j hj => by
    show mul F (co a j) (co b (i - j)) = 0
    by_cases h1 : j < a.length
    · rw [co_past (l := b) (by omega), mul_zero h (co_lt ha j)]
    · rw [co_past (l := a) (by omega), zero_mul h]
  rw [← ev_of_le h (Nat.le_max_left c.length (a.length + b.length)), ← ve_ext h (Nat.le_max_right c.length (a.length + b.length)) hz]
  exact ve_congr fun i _ => hc i
theorem ev_prod {F : Fld} (h : Six F) {a b : List Nat} (ha : El F a) (hb : El F b) (han : a ≠ []) (hbn : b ≠ []) {x : Nat} (hx : x < F.size) : ev F (prod F a b) x = mul F (ev F a x) (ev F b x) := ev_mul h ha hb (co_prod h ha hb han hbn) hx

theorem prod_zero {F : Fld} (h : Six F) {b : List Nat} (hb : El F b) (hbn : b ≠ []) : prod F [0] b = [0] := by
  have hs := h.bounds
  have h0 : El F [0] := fun j => by
    rcases j with _ | j
    · show 0 < F.size; omega
    · show 0 < F.size; omega
  refine co_ext (prod_tidy F _ _) rfl (prod_ne (by simp) hbn) (by simp) fun n => ?_
  rw [co_prod h h0 hb (by simp) hbn]
  have z : ∀ i, co [0] i = 0 := fun i => co_zeros 1 i
  rw [z n]
  refine xs_zero fun i hi => ?_
  show mul F (co [0] i) _ = 0
  rw [z i, zero_mul h]
theorem prod_zero' {F : Fld} (h : Six F) {a : List Nat} (ha : El F a) (han : a ≠ []) : prod F a [0] = [0] := by
  have hs := h.bounds
  have h0 : El F [0] := fun j => by
    rcases j with _ | j
    · show 0 < F.size; omega
    · show 0 < F.size; omega
  refine co_ext (prod_tidy F _ _) rfl (prod_ne han (by simp)) (by simp) fun n => ?_
  rw [co_prod h ha h0 han (by simp)]
  have z : ∀ i, co [0] i = 0 := fun i => co_zeros 1 i
  rw [z n]
  refine xs_zero fun i hi => ?_
  show mul F (co a i) (co [0] (n - i)) = 0
  rw [z _, mul_zero h (co_lt ha i)]

/-- The generator with so many roots. -/
def gen (F : Fld) : Nat → List Nat
  | 0 => [1]
  | d + 1 => prod F (gen F d) [1, ex F (d + F.base)]
theorem gen_ne (F : Fld) : ∀ d, gen F d ≠ []
  | 0 => by simp [gen]
  | d + 1 => prod_ne (gen_ne F d) (by simp)
theorem lin_el {F : Fld} (h : Six F) {e : Nat} (he : e < F.size) : El F [1, e] := by
  have hs := h.bounds
  intro j
  rcases j with _ | _ | j
  · show 1 < F.size; omega
  · exact he
  · show 0 < F.size; omega
theorem gen_el {F : Fld} (h : Six F) : ∀ d, El F (gen F d)
  | 0 => by
    have hs := h.bounds
    intro j
    rcases j with _ | j
    · show 1 < F.size; omega
    · show 0 < F.size; omega
  | d + 1 => prod_el h (gen_el h d) (lin_el h (ex_lt F (by have := h.bounds; omega) _))
theorem gen_tidy (F : Fld) : ∀ d, tidy (gen F d) = gen F d
  | 0 => rfl
  | d + 1 => prod_tidy F _ _
theorem co_lin (e n : Nat) : co [1, e] n = if n = 0 then e else if n = 1 then 1 else 0 := by
  rcases n with _ | _ | n
  · rfl
  · rfl
  · rw [co_past (by simp)]; simp
theorem gen_top {F : Fld} (h : Six F) : ∀ d, (gen F d).length = d + 1 ∧ co (gen F d) d = 1
  | 0 => ⟨rfl, rfl⟩
  | d + 1 => by
    have hs := h.bounds
    obtain ⟨i1, i2⟩ := gen_top h d
    have hel := lin_el h (ex_lt F (by omega) (d + F.base))
    have hc : co (gen F (d + 1)) (d + 1) = 1 := by
      show co (prod F (gen F d) _) _ = 1
      rw [co_prod h (gen_el h d) hel (gen_ne F d) (by simp)]
      unfold pm
      rw [xs_one (k := d) (by omega) (fun i hi hne => ?_)]
      · show mul F (co (gen F d) d) (co [1, ex F (d + F.base)] (d + 1 - d)) = 1
        rw [i2, show d + 1 - d = 1 by omega]
        exact mul_one h (by omega)
      · show mul F (co (gen F d) i) (co [1, ex F (d + F.base)] (d + 1 - i)) = 0
        by_cases h1 : i < d
        · rw [co_past (l := [1, ex F (d + F.base)]) (by simp; omega), mul_zero h (co_lt (gen_el h d) i)]
        · rw [co_past (l := gen F d) (by omega), zero_mul h]
    refine ⟨?_, hc⟩
    have hle := prod_length F (gen F d) [1, ex F (d + F.base)]
    rw [i1] at hle
    have hge : d + 1 < (gen F (d + 1)).length := by
      rcases Nat.lt_or_ge (d + 1) (gen F (d + 1)).length with h1 | h1
      · exact h1
      · rw [co_past h1] at hc; cases hc
    have : (gen F (d + 1)).length ≤ d + 1 + [1, ex F (d + F.base)].length - 1 := hle
    simp at this
    omega
theorem ev_lin {F : Fld} (h : Six F) {e x : Nat} (he : e < F.size) (hx : x < F.size) : ev F [1, e] x = e ^^^ x := by
  have hs := h.bounds
  show (0 ^^^ mul F e 1) ^^^ mul F 1 (mul F 1 x) = e ^^^ x
  rw [Nat.zero_xor, mul_one h he, one_mul h hx, one_mul h hx]
theorem gen_root {F : Fld} (h : Six F) : ∀ d i, i < d → ev F (gen F d) (ex F (i + F.base)) = 0
  | 0, i, hi => absurd hi (by omega)
  | d + 1, i, hi => by
    have hs := h.bounds
    have hx := ex_lt F (by omega) (i + F.base)
    have he := ex_lt F (by omega) (d + F.base)
    show ev F (prod F (gen F d) _) _ = 0
    rw [ev_prod h (gen_el h d) (lin_el h he) (gen_ne F d) (by simp) hx, ev_lin h he hx]
    by_cases e : i = d
    · subst e
      rw [Nat.xor_self, mul_zero h (ev_lt h (gen_el h _) _)]
    · rw [gen_root h d i (by omega), zero_mul h]

/-- What is encoded. -/
def coded (data : List Nat) (r : List Nat) (ec : Nat) : List Nat := data ++ List.replicate (ec - r.length) 0 ++ r
theorem co_append (a b : List Nat) (n : Nat) : co (a ++ b) n = if n < b.length then co b n else co a (n - b.length) := by
  unfold co
  rw [List.length_append]
  by_cases h1 : n < b.length
  · rw [if_pos (by omega), if_pos h1, if_pos h1, nth_append, if_neg (by omega)]
    congr 1; omega
  · rw [if_neg h1]
    by_cases h2 : n < a.length + b.length
    · rw [if_pos h2, if_pos (by omega), nth_append, if_pos (by omega)]
      congr 1; omega
    · rw [if_neg h2, if_neg (by omega)]
theorem co_coded (data r : List Nat) (ec n : Nat) (hr : r.length ≤ ec) : co (coded data r ec) n = if ec ≤ n then co data (n - ec) else co r n := by
  unfold coded
  rw [co_append]
  by_cases h1 : n < r.length
  · rw [if_pos h1, if_neg (by omega)]
  · rw [if_neg h1, co_append, List.length_replicate]
    by_cases h2 : n - r.length < ec - r.length
    · rw [if_pos h2, if_neg (by omega), co_zeros, co_past (by omega)]
    · rw [if_neg h2, if_pos (by omega)]
      congr 1; omega
/-- What is encoded is zero at each root. -/
theorem coded_root {F : Fld} (h : Six F) {data q r : List Nat} {ec : Nat} (hd : El F data) (hdn : data ≠ []) (hq : El F q) (hr : El F r) (hqn : q ≠ []) (hrl : r.length ≤ ec)
    (hl : plus (prod F q (gen F ec)) r = shfL F (tidy data) ec 1) (i : Nat) (hi : i < ec) : ev F (coded data r ec) (ex F (i + F.base)) = 0 := by
  have hs := h.bounds
  have hx := ex_lt F (by omega) (i + F.base)
  have hp := prod_el h hq (gen_el h ec)
  have hc : ∀ n, co (prod F q (gen F ec)) n = co (coded data r ec) n := by
    intro n
    have e1 := co_plus (prod F q (gen F ec)) r n
    rw [hl, co_shfL h hd.tidy] at e1
    rw [co_coded _ _ _ _ hrl]
    have e2 : co (prod F q (gen F ec)) n = shf F (co (tidy data)) ec 1 n ^^^ co r n := by
      rw [e1, Nat.xor_assoc, Nat.xor_self, Nat.xor_zero]
    rw [e2]
    unfold shf
    split
    · rw [co_past (l := r) (by omega), Nat.xor_zero, co_tidy, mul_one h (co_lt hd _)]
    · rw [Nat.zero_xor]
  rw [← ev_congr h hc, ev_prod h hq (gen_el h ec) hqn (gen_ne F ec) hx, gen_root h ec i hi, mul_zero h (ev_lt h hq _)]
end Go.Qz.RS
