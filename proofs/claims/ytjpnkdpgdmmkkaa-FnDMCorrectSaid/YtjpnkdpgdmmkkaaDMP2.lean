/-
  Data Matrix: rests by long division, blocks (plain). No program in sight.
-/
import Derived.Test.YtjpnkdpgdmmkkaaDMP
import Derived.Test.YtjpnkdpgdmmkkaaGFX
namespace Go.Qz.DM
open Go.Qz Go.Qz.RS
set_option linter.unusedVariables false

theorem step_D : ∀ a, a < 256 → RS.step D a = (if 255 < 2 * a then 2 * a ^^^ 301 else 2 * a) ∧ RS.step D a < 256 := by decide +kernel
theorem step_hi {a : Nat} (ha : a < 256) (h : 255 < 2 * a) : RS.step D a = 2 * a ^^^ 301 := by rw [(step_D a ha).1, if_pos h]
theorem step_lo {a : Nat} (ha : a < 256) (h : ¬ 255 < 2 * a) : RS.step D a = 2 * a := by rw [(step_D a ha).1, if_neg h]
theorem step_256 {a : Nat} (ha : a < 256) : RS.step D a < 256 := (step_D a ha).2
theorem mul_0 {a : Nat} (ha : a < 256) : mul D a 0 = 0 := mul_zero six2 (show a < D.size from ha)

/-- A row of numbers by a function. -/
def rowF (N : Nat) (f : Nat → Nat) : List Nat := (List.range N).map f
theorem rowF_length (N : Nat) (f : Nat → Nat) : (rowF N f).length = N := by simp [rowF]
theorem rowF_nth {N : Nat} {f : Nat → Nat} {j : Nat} (h : j < N) : nth (rowF N f) j = f j := nth_map_range _ _ _ h
theorem rowF_congr {N : Nat} {f g : Nat → Nat} (h : ∀ j, j < N → f j = g j) : rowF N f = rowF N g := by
  unfold rowF
  exact List.map_congr_left fun j hj => h j (List.mem_range.1 hj)
theorem rowF_set {N : Nat} {f g : Nat → Nat} {i v : Nat} (hi : i < N) (hv : g i = v) (h : ∀ j, j < N → j ≠ i → f j = g j) : (rowF N f).set i v = rowF N g := by
  apply List.ext_getElem
  · simp [rowF]
  · intro j h1 h2
    rw [List.getElem_set]
    have hj : j < N := by simpa [rowF] using h2
    by_cases e : i = j
    · subst e; rw [if_pos rfl]; simp [rowF, hv]
    · rw [if_neg e]; simp [rowF, h j hj (fun h => e h.symm)]
theorem rowF_zero (N : Nat) : rowF N (fun _ => 0) = List.replicate N 0 := by
  unfold rowF
  apply List.ext_getElem <;> simp
theorem rowF_list (l : List Nat) : rowF l.length (nth l) = l := by
  apply List.ext_getElem
  · simp [rowF]
  · intro j h1 h2; simp [rowF, nth_eq h2]

/-- The next generator, so far. -/
def nk (g : List Nat) (e i j : Nat) : Nat := (if j < i then nth g j else 0) ^^^ (if 0 < j ∧ j ≤ i then mul D (nth g (j - 1)) e else 0)
theorem nk_zero (g : List Nat) (e j : Nat) : nk g e 0 j = 0 := by
  unfold nk
  rw [if_neg (by omega), if_neg (by omega)]; rfl
theorem nk_all (g : List Nat) (e : Nat) : rowF (g.length + 1) (nk g e g.length) = nx g e := by
  unfold nx rowF
  refine List.map_congr_left fun j hj => ?_
  have hj : j < g.length + 1 := List.mem_range.1 hj
  unfold nk
  by_cases h0 : j = 0
  · subst h0
    by_cases hg : 0 < g.length
    · rw [if_pos hg, if_neg (by omega), if_pos rfl]
    · rw [if_neg hg, if_neg (by omega), if_pos rfl, nth_past (by omega)]
  · rw [if_pos (show 0 < j ∧ j ≤ g.length by omega), if_neg h0]
    by_cases hg : j < g.length
    · rw [if_pos hg]
    · rw [if_neg hg, nth_past (l := g) (n := j) (by omega)]
/-- Half a step: the element itself. -/
def nh (g : List Nat) (e i j : Nat) : Nat := if j = i then nk g e i i ^^^ nth g i else nk g e i j
theorem nh_next (g : List Nat) (e i j : Nat) (h : j ≠ i + 1) : nh g e i j = nk g e (i + 1) j := by
  unfold nh nk
  by_cases h1 : j = i
  · subst h1
    by_cases h0 : 0 < j
    · simp [h0]
      exact Nat.xor_comm _ _
    · simp [h0]
  · by_cases h2 : j < i
    · simp [h1, h2, show j < i + 1 by omega, show j ≤ i by omega, show j ≤ i + 1 by omega]
    · simp [h1, h2, show ¬ j < i + 1 by omega, show ¬ j ≤ i by omega, show ¬ j ≤ i + 1 by omega]
theorem nk_step (g : List Nat) (e i : Nat) : nh g e i (i + 1) = 0 ∧ nk g e (i + 1) (i + 1) = mul D (nth g i) e := by
  unfold nh nk
  rw [if_neg (by omega), if_neg (by omega), if_neg (by omega), if_neg (by omega), if_pos (by omega), Nat.add_sub_cancel]
  exact ⟨rfl, Nat.zero_xor _⟩

/-- What is left of the data, so far. -/
def rs (n : Nat) (data : List Nat) (i j : Nat) : Nat := if j < i then 0 else nth data j ^^^ nth (lfs n (gd n) (data.take i)) (j - i)
theorem rs_zero (n : Nat) (data : List Nat) (j : Nat) : rs n data 0 j = nth data j := by
  unfold rs
  rw [if_neg (by omega), List.take_zero]
  show nth data j ^^^ nth (List.replicate n 0) _ = _
  rw [nth_replicate]
  split <;> simp
theorem rs_end (n : Nat) (data : List Nat) (t : Nat) : rs n data data.length (data.length + t) = nth (lfs n (gd n) data) t := by
  unfold rs
  rw [if_neg (by omega), List.take_length, nth_past (l := data) (by omega), Nat.zero_xor, Nat.add_sub_cancel_left]
theorem rs_lt {n : Nat} {data : List Nat} (hd : ∀ j, nth data j < 256) (i j : Nat) : rs n data i j < 256 := by
  unfold rs
  split
  · omega
  · refine xor_256 (hd j) (lfs_lt (fun j => ?_) _)
    by_cases h : j < i
    · rw [show nth (data.take i) j = nth data j by unfold nth; rw [List.getD_eq_getElem?_getD, List.getD_eq_getElem?_getD, List.getElem?_take, if_pos h]]
      exact hd j
    · rw [nth_past (by simp; omega)]; omega
/-- A round of the division, so far. -/
def rk (n : Nat) (data : List Nat) (i k j : Nat) : Nat := if i ≤ j ∧ j < i + k then rs n data i j ^^^ mul D (rs n data i i) (nth (gd n) (j - i)) else rs n data i j
theorem rk_zero (n : Nat) (data : List Nat) (i j : Nat) : rk n data i 0 j = rs n data i j := by
  unfold rk; rw [if_neg (by omega)]
theorem rk_next (n : Nat) (data : List Nat) (i k j : Nat) (h : j ≠ i + k) : rk n data i k j = rk n data i (k + 1) j := by
  unfold rk
  by_cases h1 : i ≤ j ∧ j < i + k
  · rw [if_pos h1, if_pos (by omega)]
  · rw [if_neg h1, if_neg (by omega)]
theorem rk_at (n : Nat) (data : List Nat) (i k : Nat) : rk n data i k (i + k) = rs n data i (i + k) ∧ rk n data i (k + 1) (i + k) = rs n data i (i + k) ^^^ mul D (rs n data i i) (nth (gd n) k) := by
  unfold rk
  rw [if_neg (by omega), if_pos (by omega), Nat.add_sub_cancel_left]
  exact ⟨rfl, rfl⟩
theorem rk_lt {n : Nat} {data : List Nat} (hd : ∀ j, nth data j < 256) (i k j : Nat) : rk n data i k j < 256 := by
  unfold rk
  split
  · exact xor_256 (rs_lt hd _ _) (mul_256 (rs_lt hd _ _) _)
  · exact rs_lt hd _ _
theorem rk_all {n : Nat} {data : List Nat} (hd : ∀ j, nth data j < 256) {i : Nat} (hi : i < data.length) (j : Nat) : rk n data i (n + 1) j = rs n data (i + 1) j := by
  have hl := lfs_length n (gd n) (data.take i)
  have hlead : rs n data i i = nth (lfs n (gd n) (data.take i)) 0 ^^^ nth data i := by
    unfold rs
    rw [if_neg (by omega), Nat.sub_self, Nat.xor_comm]
  unfold rk
  by_cases h1 : i ≤ j ∧ j < i + (n + 1)
  · rw [if_pos h1]
    by_cases h2 : j = i
    · subst h2
      rw [Nat.sub_self, gd_head, mul_one six2 (show rs n data j j < D.size from rs_lt hd _ _), Nat.xor_self]
      unfold rs
      rw [if_pos (by omega)]
    · obtain ⟨t, rfl⟩ : ∃ t, j = i + 1 + t := ⟨j - i - 1, by omega⟩
      have ht : t < n := by omega
      have e1 : rs n data (i + 1) (i + 1 + t) = nth data (i + 1 + t) ^^^ (nth (lfs n (gd n) (data.take i)) (t + 1) ^^^ mul D (nth (lfs n (gd n) (data.take i)) 0 ^^^ nth data i) (nth (gd n) (t + 1))) := by
        unfold rs
        rw [if_neg (by omega), Nat.add_sub_cancel_left, lfs_take hi, lf_nth ht]
      rw [e1, hlead, show i + 1 + t - i = t + 1 by omega]
      unfold rs
      rw [if_neg (by omega), show i + 1 + t - i = t + 1 by omega, Nat.xor_assoc]
  · rw [if_neg h1]
    unfold rs
    by_cases h2 : j < i
    · rw [if_pos h2, if_pos (by omega)]
    · rw [if_neg h2, if_neg (by omega), nth_past (l := lfs n (gd n) (data.take i)) (by rw [hl]; omega), nth_past (l := lfs n (gd n) (data.take (i + 1))) (by rw [lfs_length]; omega)]

/-- Those of the first i elements whose number leaves k, divided by B. -/
def pick (B k : Nat) (l : List Nat) (i : Nat) : List Nat := ((List.range i).filter (fun j => j % B = k)).map (nth l)
theorem pick_succ (B k : Nat) (l : List Nat) (i : Nat) : pick B k l (i + 1) = if i % B = k then pick B k l i ++ [nth l i] else pick B k l i := by
  unfold pick
  rw [List.range_succ, List.filter_append, List.map_append]
  by_cases h : i % B = k
  · simp [h]
  · simp [h]
theorem pick_len (B k : Nat) (l : List Nat) : ∀ i, (pick B k l i).length ≤ i
  | 0 => by simp [pick]
  | i + 1 => by
    have := pick_len B k l i
    rw [pick_succ]
    split
    · rw [List.length_append]; simp; omega
    · omega
/-- Every B-th element from k on. -/
def every (B k : Nat) (l : List Nat) (m : Nat) : List Nat := (List.range m).map fun t => nth l (B * t + k)
theorem every_succ (B k : Nat) (l : List Nat) (m : Nat) : every B k l (m + 1) = every B k l m ++ [nth l (B * m + k)] := by
  unfold every; rw [List.range_succ, List.map_append]; rfl
theorem every_len (B k : Nat) (l : List Nat) (m : Nat) : (every B k l m).length = m := by simp [every]
theorem pick_every {B k : Nat} (hk : k < B) (l : List Nat) : ∀ m, pick B k l (B * m) = every B k l m
  | 0 => by simp [pick, every]
  | m + 1 => by
    have key : ∀ r, r ≤ B → pick B k l (B * m + r) = if k < r then every B k l (m + 1) else every B k l m := by
      intro r
      induction r with
      | zero => intro _; rw [Nat.add_zero, pick_every hk l m, if_neg (by omega)]
      | succ r ih =>
        intro hr
        rw [← Nat.add_assoc, pick_succ, ih (by omega), Nat.mul_add_mod, Nat.mod_eq_of_lt (by omega)]
        by_cases h : r = k
        · subst h
          rw [if_pos rfl, if_neg (by omega), if_pos (by omega), every_succ]
        · rw [if_neg h]
          by_cases h2 : k < r
          · rw [if_pos h2, if_pos (by omega)]
          · rw [if_neg h2, if_neg (by omega)]
    rw [Nat.mul_succ, key B (Nat.le_refl _), if_pos hk]

/-- The words of a block's error correction. -/
def dchk (n B Dt : Nat) (data : List Nat) (b : Nat) : List Nat := lfs n (gd n) (pick B b data Dt)
/-- All words, so far: those of the first b blocks, and of this one up to place e. -/
def co2 (n B Dt : Nat) (data : List Nat) (b e j : Nat) : Nat := if j < Dt then nth data j else if (j - Dt) % B < b ∨ ((j - Dt) % B = b ∧ j - Dt < e) then nth (dchk n B Dt data ((j - Dt) % B)) ((j - Dt) / B) else 0
theorem co2_zero (n B Dt : Nat) (data : List Nat) (j : Nat) : co2 n B Dt data 0 0 j = if j < Dt then nth data j else 0 := by
  unfold co2
  by_cases h : j < Dt
  · rw [if_pos h, if_pos h]
  · rw [if_neg h, if_neg h, if_neg (by omega)]
theorem co2_next (n B Dt : Nat) (data : List Nat) (b e j : Nat) (h : j ≠ Dt + e ∨ e % B ≠ b) : co2 n B Dt data b e j = co2 n B Dt data b (e + 1) j := by
  unfold co2
  by_cases h1 : j < Dt
  · rw [if_pos h1, if_pos h1]
  · rw [if_neg h1, if_neg h1]
    by_cases h2 : (j - Dt) % B < b ∨ ((j - Dt) % B = b ∧ j - Dt < e)
    · rw [if_pos h2, if_pos (by omega)]
    · rw [if_neg h2, if_neg]
      intro h3
      apply h2
      rcases h3 with h3 | ⟨h3, h4⟩
      · exact .inl h3
      · right
        refine ⟨h3, ?_⟩
        rcases h with h | h
        · omega
        · have : j - Dt ≠ e := fun e9 => h (by rw [← e9]; exact h3)
          omega
theorem co2_at (n B Dt : Nat) (data : List Nat) (b e : Nat) (h : e % B = b) : co2 n B Dt data b (e + 1) (Dt + e) = nth (dchk n B Dt data b) (e / B) := by
  unfold co2
  rw [if_neg (by omega), Nat.add_sub_cancel_left, if_pos (.inr ⟨h, by omega⟩), h]
theorem co2_all (n B Dt : Nat) (data : List Nat) (b er j : Nat) (h : j < Dt + er) : co2 n B Dt data b er j = co2 n B Dt data (b + 1) 0 j := by
  unfold co2
  by_cases h1 : j < Dt
  · rw [if_pos h1, if_pos h1]
  · rw [if_neg h1, if_neg h1]
    by_cases h2 : (j - Dt) % B < b ∨ ((j - Dt) % B = b ∧ j - Dt < er)
    · rw [if_pos h2, if_pos (by omega)]
    · rw [if_neg h2, if_neg (by omega)]
theorem kth {B k b e : Nat} (hb : b < B) (h1 : e ≤ B * k + b) (h2 : B * k + b < e + B) (h : e % B = b) : k = e / B := by
  have hd := Nat.div_add_mod e B
  rw [h] at hd
  have h3 : B * (e / B) ≤ B * k := by omega
  have h4 : B * k < B * (e / B + 1) := by rw [Nat.mul_succ]; omega
  have h5 := Nat.le_of_mul_le_mul_left h3 (by omega)
  have h6 := Nat.lt_of_mul_lt_mul_left h4
  omega
theorem kth_not {B k b e : Nat} (hb : b < B) (h1 : e ≤ B * k + b) (h : e % B ≠ b) : e + 1 ≤ B * k + b := by
  have : e ≠ B * k + b := fun e9 => h (by rw [e9, Nat.mul_add_mod, Nat.mod_eq_of_lt hb])
  omega
end Go.Qz.DM
