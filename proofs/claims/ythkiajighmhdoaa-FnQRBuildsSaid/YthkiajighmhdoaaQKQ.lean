/-
  The order of a QR symbol's data modules (plain), how many there are. No program in sight.
-/
import Derived.Test.YthkiajighmhdoaaQKP
namespace Go.Qz.QK
open Go.Qz Go.Qz.QW
set_option linter.unusedVariables false

/-- The right column of a pair. -/
def rgt (n p : Nat) : Nat := if 8 + 2 * p < n then n - 1 - 2 * p else n - 2 - 2 * p
def rowO (n p j : Nat) : Nat := if p % 2 = 0 then n - 1 - j else j
def posT (n p j q : Nat) : Nat × Nat := (rowO n p j, rgt n p - q)
def tix (n p j q : Nat) : Nat := (p * n + j) * 2 + q
def pos (n t : Nat) : Nat × Nat := posT n (t / 2 / n) (t / 2 % n) (t % 2)
theorem pos_tix (n p j q : Nat) (hj : j < n) (hq : q < 2) : pos n (tix n p j q) = posT n p j q := by
  unfold pos tix
  have h1 : ((p * n + j) * 2 + q) / 2 = p * n + j := by omega
  have h2 : ((p * n + j) * 2 + q) % 2 = q := by omega
  have h3 : (p * n + j) / n = p := by rw [Nat.add_comm, Nat.add_mul_div_right _ _ (by omega), Nat.div_eq_of_lt hj]; omega
  have h4 : (p * n + j) % n = j := by rw [Nat.add_comm, Nat.add_mul_mod_self_right, Nat.mod_eq_of_lt hj]
  rw [h1, h2, h3, h4]
theorem tix_of (n t : Nat) (hn : 0 < n) : t = tix n (t / 2 / n) (t / 2 % n) (t % 2) := by
  unfold tix
  have := Nat.div_add_mod' (t / 2) n
  rw [this]; omega
/-- Which place of the order a module has. -/
def cix (n c : Nat) : Nat := if 6 < c then n - 1 - c else n - 2 - c
def ix (n r c : Nat) : Nat := tix n (cix n c / 2) (rowO n (cix n c / 2) r) (cix n c % 2)
theorem rowO_lt (n p j : Nat) (hj : j < n) : rowO n p j < n := by unfold rowO; split <;> omega
theorem rowO_rowO (n p j : Nat) (hj : j < n) : rowO n p (rowO n p j) = j := by unfold rowO; split <;> omega
theorem cix_rgt (n p q : Nat) (ho : n % 2 = 1) (hn : 21 ≤ n) (hp : p < (n - 1) / 2) (hq : q < 2) : cix n (rgt n p - q) = 2 * p + q ∧ rgt n p - q < n ∧ rgt n p - q ≠ 6 ∧ 1 ≤ rgt n p := by
  unfold cix rgt
  split <;> (split <;> omega)
theorem rgt_cix (n c : Nat) (ho : n % 2 = 1) (hn : 21 ≤ n) (hc : c < n) (h6 : c ≠ 6) : rgt n (cix n c / 2) - cix n c % 2 = c ∧ cix n c / 2 < (n - 1) / 2 := by
  unfold cix rgt
  split <;> (split <;> omega)
theorem pos_ix (n r c : Nat) (ho : n % 2 = 1) (hn : 21 ≤ n) (hr : r < n) (hc : c < n) (h6 : c ≠ 6) : pos n (ix n r c) = (r, c) := by
  unfold ix
  rw [pos_tix _ _ _ _ (rowO_lt _ _ _ hr) (Nat.mod_lt _ (by omega))]
  unfold posT
  rw [rowO_rowO _ _ _ hr, (rgt_cix n c ho hn hc h6).1]
theorem ix_posT (n p j q : Nat) (ho : n % 2 = 1) (hn : 21 ≤ n) (hp : p < (n - 1) / 2) (hj : j < n) (hq : q < 2) : ix n (rowO n p j) (rgt n p - q) = tix n p j q := by
  unfold ix
  rw [(cix_rgt n p q ho hn hp hq).1, show (2 * p + q) / 2 = p by omega, show (2 * p + q) % 2 = q by omega, rowO_rowO _ _ _ hj]
theorem tix_lt (n p j q : Nat) (ho : n % 2 = 1) (hp : p < (n - 1) / 2) (hj : j < n) (hq : q < 2) : tix n p j q < (n - 1) * n := by
  unfold tix
  have h1 : (p + 1) * n ≤ (n - 1) / 2 * n := Nat.mul_le_mul_right _ (by omega)
  have h2 : (n - 1) / 2 * n * 2 = (n - 1) * n := by rw [Nat.mul_right_comm, show (n - 1) / 2 * 2 = n - 1 by omega]
  rw [Nat.add_mul] at h1
  omega
theorem lt_tix (n t : Nat) (ho : n % 2 = 1) (hn : 21 ≤ n) (h : t < (n - 1) * n) : t / 2 / n < (n - 1) / 2 := by
  have h2 : (n - 1) / 2 * n * 2 = (n - 1) * n := by rw [Nat.mul_right_comm, show (n - 1) / 2 * 2 = n - 1 by omega]
  rw [Nat.div_lt_iff_lt_mul (by omega)]
  omega
theorem ix_lt (n r c : Nat) (ho : n % 2 = 1) (hn : 21 ≤ n) (hr : r < n) (hc : c < n) (h6 : c ≠ 6) : ix n r c < (n - 1) * n := by
  unfold ix
  exact tix_lt n _ _ _ ho (rgt_cix n c ho hn hc h6).2 (rowO_lt _ _ _ hr) (Nat.mod_lt _ (by omega))
theorem pos_fine (n t : Nat) (ho : n % 2 = 1) (hn : 21 ≤ n) (h : t < (n - 1) * n) : (pos n t).1 < n ∧ (pos n t).2 < n ∧ (pos n t).2 ≠ 6 ∧ ix n (pos n t).1 (pos n t).2 = t := by
  have hp := lt_tix n t ho hn h
  have hj : t / 2 % n < n := Nat.mod_lt _ (by omega)
  have hq : t % 2 < 2 := Nat.mod_lt _ (by omega)
  obtain ⟨h1, h2, h3, _⟩ := cix_rgt n _ _ ho hn hp hq
  refine ⟨rowO_lt _ _ _ hj, h2, h3, ?_⟩
  have := ix_posT n _ _ _ ho hn hp hj hq
  rw [← tix_of n t (by omega)] at this
  exact this
/-- The data modules among the first ones of the order. -/
def wy (n : Nat) (gv : Nat → Nat → Bool) (T : Nat) : List (Nat × Nat) := ((List.range T).map (pos n)).filter fun x => !gv x.1 x.2
def nb (n : Nat) (gv : Nat → Nat → Bool) (T : Nat) : Nat := (wy n gv T).length
theorem wy_succ (n : Nat) (gv : Nat → Nat → Bool) (T : Nat) : wy n gv (T + 1) = wy n gv T ++ (if gv (pos n T).1 (pos n T).2 then [] else [pos n T]) := by
  unfold wy
  rw [List.range_succ, List.map_append, List.filter_append]
  congr 1
  cases h : gv (pos n T).1 (pos n T).2 <;> simp [h]
theorem nb_succ (n : Nat) (gv : Nat → Nat → Bool) (T : Nat) : nb n gv (T + 1) = nb n gv T + (if gv (pos n T).1 (pos n T).2 then 0 else 1) := by
  unfold nb
  rw [wy_succ, List.length_append]
  split <;> rfl
theorem nb_mono (n : Nat) (gv : Nat → Nat → Bool) (s : Nat) : ∀ t, s ≤ t → nb n gv s ≤ nb n gv t
  | 0, h => by rw [show s = 0 by omega]; exact Nat.le_refl _
  | t + 1, h => by
    rcases Nat.lt_or_ge s (t + 1) with h1 | h1
    · have := nb_mono n gv s t (by omega)
      rw [nb_succ]; omega
    · rw [show s = t + 1 by omega]; exact Nat.le_refl _
theorem nb_lt (n : Nat) (gv : Nat → Nat → Bool) (s t : Nat) (h : s < t) (hg : gv (pos n s).1 (pos n s).2 = false) : nb n gv s < nb n gv t := by
  have h1 := nb_mono n gv (s + 1) t h
  rw [nb_succ, hg] at h1
  simp at h1
  omega
theorem wy_get (n : Nat) (gv : Nat → Nat → Bool) (t : Nat) (hg : gv (pos n t).1 (pos n t).2 = false) : ∀ T, t < T → (wy n gv T)[nb n gv t]? = some (pos n t)
  | 0, h => by omega
  | T + 1, h => by
    rw [wy_succ]
    rcases Nat.lt_or_ge t T with h1 | h1
    · rw [List.getElem?_append_left (nb_lt n gv t T h1 hg)]
      exact wy_get n gv t hg T h1
    · obtain rfl : t = T := by omega
      rw [hg, List.getElem?_append_right (by unfold nb; exact Nat.le_refl _)]
      simp [nb]
theorem wy_inv (n : Nat) (gv : Nat → Nat → Bool) (k : Nat) : ∀ T, k < (wy n gv T).length → ∃ t, t < T ∧ gv (pos n t).1 (pos n t).2 = false ∧ nb n gv t = k ∧ (wy n gv T)[k]? = some (pos n t)
  | 0, h => by simp [wy] at h
  | T + 1, h => by
    by_cases hk : k < (wy n gv T).length
    · obtain ⟨t, h1, h2, h3, h4⟩ := wy_inv n gv k T hk
      exact ⟨t, by omega, h2, h3, by rw [wy_succ, List.getElem?_append_left hk]; exact h4⟩
    · rw [wy_succ, List.length_append] at h
      cases hg : gv (pos n T).1 (pos n T).2 with
      | true => rw [hg] at h; simp at h; omega
      | false =>
        rw [hg] at h
        simp at h
        have e : nb n gv T = k := by unfold nb; omega
        exact ⟨T, by omega, hg, e, by rw [← e]; exact wy_get n gv T hg (T + 1) (by omega)⟩
/-- The modules, filled up to a place of the order. -/
def fl (n : Nat) (gv : Nat → Nat → Bool) (B : G) (val : Nat → Nat → Nat → Int) (t : Nat) : G := fun r c => if gv r c = true ∨ c = 6 ∨ t ≤ ix n r c then B r c else val r c (nb n gv (ix n r c))
theorem fl_zero (n : Nat) (gv : Nat → Nat → Bool) (B : G) (val : Nat → Nat → Nat → Int) : fl n gv B val 0 = B := by
  funext r c; unfold fl; rw [if_pos (.inr (.inr (Nat.zero_le _)))]
section
variable {n : Nat} {gv : Nat → Nat → Bool} {B : G} {val : Nat → Nat → Nat → Int} {t : Nat}
theorem fl_skip (ho : n % 2 = 1) (hn : 21 ≤ n) (ht : t < (n - 1) * n) (hg : gv (pos n t).1 (pos n t).2 = true) {r c : Nat} (hr : r < n) (hc : c < n) : fl n gv B val (t + 1) r c = fl n gv B val t r c := by
  unfold fl
  by_cases h1 : gv r c = true ∨ c = 6
  · rw [if_pos (by rcases h1 with h | h; exact .inl h; exact .inr (.inl h)), if_pos (by rcases h1 with h | h; exact .inl h; exact .inr (.inl h))]
  · have hne : ix n r c ≠ t := fun e => by
      have := pos_ix n r c ho hn hr hc (fun h => h1 (.inr h))
      rw [e] at this
      rw [this] at hg
      exact h1 (.inl hg)
    by_cases h2 : t ≤ ix n r c
    · rw [if_pos (.inr (.inr (by omega))), if_pos (.inr (.inr h2))]
    · rw [if_neg (by intro h; rcases h with h | h | h; exact h1 (.inl h); exact h1 (.inr h); omega), if_neg (by intro h; rcases h with h | h | h; exact h1 (.inl h); exact h1 (.inr h); omega)]
theorem fl_set (ho : n % 2 = 1) (hn : 21 ≤ n) (ht : t < (n - 1) * n) (hg : gv (pos n t).1 (pos n t).2 = false) {r c : Nat} (hr : r < n) (hc : c < n) : fl n gv B val (t + 1) r c = if r = (pos n t).1 ∧ c = (pos n t).2 then val r c (nb n gv t) else fl n gv B val t r c := by
  obtain ⟨_, _, h6, hix⟩ := pos_fine n t ho hn ht
  by_cases he : r = (pos n t).1 ∧ c = (pos n t).2
  · rw [if_pos he]
    unfold fl
    rw [he.1, he.2, hix, if_neg (by intro h; rcases h with h | h | h; rw [hg] at h; cases h; exact h6 h; omega)]
  · rw [if_neg he]
    unfold fl
    by_cases h1 : gv r c = true ∨ c = 6
    · rw [if_pos (by rcases h1 with h | h; exact .inl h; exact .inr (.inl h)), if_pos (by rcases h1 with h | h; exact .inl h; exact .inr (.inl h))]
    · have hne : ix n r c ≠ t := fun e => by
        have := pos_ix n r c ho hn hr hc (fun h => h1 (.inr h))
        rw [e] at this
        exact he (by rw [this]; exact ⟨rfl, rfl⟩)
      by_cases h2 : t ≤ ix n r c
      · rw [if_pos (.inr (.inr (by omega))), if_pos (.inr (.inr h2))]
      · rw [if_neg (by intro h; rcases h with h | h | h; exact h1 (.inl h); exact h1 (.inr h); omega), if_neg (by intro h; rcases h with h | h | h; exact h1 (.inl h); exact h1 (.inr h); omega)]
theorem fl_here (ho : n % 2 = 1) (hn : 21 ≤ n) (ht : t < (n - 1) * n) : fl n gv B val t (pos n t).1 (pos n t).2 = B (pos n t).1 (pos n t).2 := by
  obtain ⟨_, _, h6, hix⟩ := pos_fine n t ho hn ht
  unfold fl
  rw [hix, if_pos (.inr (.inr (Nat.le_refl _)))]
/-- The reference's: filled by its k-th data module. -/
def sl (n : Nat) (gv : Nat → Nat → Bool) (B : Nat → Nat → Bool) (val : Nat → Nat → Nat → Bool) (k : Nat) (r c : Nat) : Bool := if gv r c = true ∨ c = 6 ∨ k ≤ nb n gv (ix n r c) then B r c else val r c (nb n gv (ix n r c))
theorem sl_zero (gv : Nat → Nat → Bool) (B : Nat → Nat → Bool) (val : Nat → Nat → Nat → Bool) : sl n gv B val 0 = B := by
  funext r c; unfold sl; rw [if_pos (.inr (.inr (Nat.zero_le _)))]
theorem sl_set {B : Nat → Nat → Bool} {val : Nat → Nat → Nat → Bool} {k : Nat} {x : Nat × Nat} (ho : n % 2 = 1) (hn : 21 ≤ n) (hk : k < (wy n gv ((n - 1) * n)).length) (hx : (wy n gv ((n - 1) * n))[k]? = some x) {r c : Nat} (hr : r < n) (hc : c < n) :
    sl n gv B val (k + 1) r c = if r = x.1 ∧ c = x.2 then val r c k else sl n gv B val k r c := by
  obtain ⟨t, ht, hg, hnb, hx2⟩ := wy_inv n gv k _ hk
  rw [hx] at hx2
  injection hx2 with hx2
  subst hx2
  obtain ⟨_, _, h6, hix⟩ := pos_fine n t ho hn ht
  by_cases he : r = (pos n t).1 ∧ c = (pos n t).2
  · rw [if_pos he]
    unfold sl
    rw [he.1, he.2, hix, hnb, if_neg (by intro h; rcases h with h | h | h; rw [hg] at h; cases h; exact h6 h; omega)]
  · rw [if_neg he]
    unfold sl
    by_cases h1 : gv r c = true ∨ c = 6
    · rw [if_pos (by rcases h1 with h | h; exact .inl h; exact .inr (.inl h)), if_pos (by rcases h1 with h | h; exact .inl h; exact .inr (.inl h))]
    · have hp := pos_ix n r c ho hn hr hc (fun h => h1 (.inr h))
      have hgr : gv (pos n (ix n r c)).1 (pos n (ix n r c)).2 = false := by rw [hp]; simpa using fun h => h1 (.inl h)
      have hne : ix n r c ≠ t := fun e => by
        rw [e] at hp
        exact he (by rw [hp]; exact ⟨rfl, rfl⟩)
      have hnk : nb n gv (ix n r c) ≠ k := fun e => by
        rcases Nat.lt_or_ge (ix n r c) t with h | h
        · have := nb_lt n gv _ _ h hgr; omega
        · have := nb_lt n gv t (ix n r c) (by omega) hg; omega
      by_cases h2 : k ≤ nb n gv (ix n r c)
      · rw [if_pos (.inr (.inr (by omega))), if_pos (.inr (.inr h2))]
      · rw [if_neg (by intro h; rcases h with h | h | h; exact h1 (.inl h); exact h1 (.inr h); omega), if_neg (by intro h; rcases h with h | h | h; exact h1 (.inl h); exact h1 (.inr h); omega)]
theorem wy_fine (ho : n % 2 = 1) (hn : 21 ≤ n) {k : Nat} {x : Nat × Nat} (hx : (wy n gv ((n - 1) * n))[k]? = some x) : x.1 < n ∧ x.2 < n := by
  have hk := (List.getElem?_eq_some_iff.1 hx).1
  obtain ⟨t, ht, hg, hnb, hx2⟩ := wy_inv n gv k _ hk
  rw [hx] at hx2
  injection hx2 with hx2
  subst hx2
  obtain ⟨h1, h2, _⟩ := pos_fine n t ho hn ht
  exact ⟨h1, h2⟩
/-- Both, at the end, tell the same. -/
theorem both (ho : n % 2 = 1) (hn : 21 ≤ n) {B : G} {P : Nat → Nat → Bool} {val : Nat → Nat → Nat → Int} {vb : Nat → Nat → Nat → Bool} (h6 : ∀ r, r < n → gv r 6 = true) (hB : ∀ r c, r < n → c < n → gv r c = true → B r c = if P r c then 1 else 0)
    (hv : ∀ r c k, val r c k = if vb r c k then 1 else 0) {r c : Nat} (hr : r < n) (hc : c < n) : fl n gv B val ((n - 1) * n) r c = if sl n gv P vb (wy n gv ((n - 1) * n)).length r c then 1 else 0 := by
  by_cases h1 : gv r c = true
  · have e1 : fl n gv B val ((n - 1) * n) r c = B r c := by unfold fl; rw [if_pos (.inl h1)]
    have e2 : sl n gv P vb (wy n gv ((n - 1) * n)).length r c = P r c := by unfold sl; rw [if_pos (.inl h1)]
    rw [e1, e2]
    exact hB r c hr hc h1
  · have hc6 : c ≠ 6 := fun h => h1 (by rw [h]; exact h6 r hr)
    have hl := ix_lt n r c ho hn hr hc hc6
    have hp := pos_ix n r c ho hn hr hc hc6
    have := nb_lt n gv _ _ hl (by rw [hp]; simpa using h1)
    have e1 : fl n gv B val ((n - 1) * n) r c = val r c (nb n gv (ix n r c)) := by
      unfold fl; rw [if_neg (by intro h; rcases h with h | h | h; exact h1 h; exact hc6 h; omega)]
    have e2 : sl n gv P vb (wy n gv ((n - 1) * n)).length r c = vb r c (nb n gv (ix n r c)) := by
      unfold sl; rw [if_neg (by intro h; rcases h with h | h | h; exact h1 h; exact hc6 h; exact absurd this (by show ¬ _ < (wy n gv ((n - 1) * n)).length; omega))]
    rw [e1, e2]
    exact hv r c _
end
end Go.Qz.QK
