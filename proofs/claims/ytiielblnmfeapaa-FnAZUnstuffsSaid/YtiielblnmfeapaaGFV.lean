/-
  Plain facts on received words: syndromes, the places that are found, magnitudes. No program in sight.
-/
import Derived.Test.YtiielblnmfeapaaGFU
namespace Go.Qz.RS
open Go.Qz
set_option linter.unusedVariables false
variable {F : Fld} {h : Six F}

/-- What errors add at a place, and to a value. -/
def errc (Y : Nat → Nat) (J : List Nat) (i : Nat) : Nat := if i ∈ J then Y i else 0
def errv (F : Fld) (Y : Nat → Nat) (x : Nat) : List Nat → Nat
  | [] => 0
  | j :: J => mul F (Y j) (pw F x j) ^^^ errv F Y x J
theorem errc_lt (h : Six F) {Y : Nat → Nat} (hY : ∀ j, Y j < F.size) (J : List Nat) (i : Nat) : errc Y J i < F.size := by
  unfold errc
  split
  · exact hY i
  · have := h.bounds; omega
theorem errc_cons {Y : Nat → Nat} {j : Nat} {J : List Nat} (hj : j ∉ J) (i : Nat) : errc Y (j :: J) i = mon j (Y j) i ^^^ errc Y J i := by
  unfold errc mon
  by_cases e : i = j
  · subst e
    rw [if_pos (by simp), if_pos rfl, if_neg hj, Nat.xor_zero]
  · rw [if_neg e, Nat.zero_xor]
    by_cases h1 : i ∈ J
    · rw [if_pos (by simp [h1]), if_pos h1]
    · rw [if_neg (by simp [h1, e]), if_neg h1]
theorem ve_mon (h : Six F) (j : Nat) {y : Nat} (hy : y < F.size) (x n : Nat) (hj : j < n) : ve F (mon j y) x n = mul F y (pw F x j) := by
  unfold ve
  rw [xs_one hj (fun i hi hne => by
    show mul F (mon j y i) _ = 0
    unfold mon; rw [if_neg hne, zero_mul h])]
  show mul F (mon j y j) _ = _
  unfold mon; rw [if_pos rfl]
theorem ve_err (h : Six F) {Y : Nat → Nat} (hY : ∀ j, Y j < F.size) (x n : Nat) : ∀ J : List Nat, J.Nodup → (∀ j ∈ J, j < n) → ve F (errc Y J) x n = errv F Y x J
  | [], _, _ => ve_zero h (fun i _ => by unfold errc; rw [if_neg (by simp)])
  | j :: J, nd, hJ => by
    obtain ⟨nj, nd'⟩ := List.nodup_cons.1 nd
    rw [ve_congr (b := fun i => mon j (Y j) i ^^^ errc Y J i) (fun i _ => errc_cons nj i), ve_xor h (mon_lt h j (hY j)) (errc_lt h hY J), ve_mon h j (hY j) x n (hJ j (by simp)), ve_err h hY x n J nd' (fun k hk => hJ k (by simp [hk]))]
    rfl
/-- A received word: the code with errors at some powers. -/
structure Rcv (F : Fld) (Y : Nat → Nat) (L R J : List Nat) : Prop where
  len : R.length = L.length
  co : ∀ i, co R i = RS.co L i ^^^ errc Y J i
theorem ev_rcv (h : Six F) {Y : Nat → Nat} (hY : ∀ j, Y j < F.size) {L R J : List Nat} (hL : El F L) (r : Rcv F Y L R J) (nd : J.Nodup) (hJ : ∀ j ∈ J, j < L.length) (x : Nat) : ev F R x = ev F L x ^^^ errv F Y x J := by
  unfold ev
  rw [r.len, ve_congr (b := fun i => RS.co L i ^^^ errc Y J i) (fun i _ => r.co i), ve_xor h (co_lt hL) (errc_lt h hY J), ve_err h hY x L.length J nd hJ]
theorem syn_c {Y : Nat → Nat} {hY : ∀ j, Y j < F.size} (b i : Nat) : ∀ J : List Nat, (syn Y hY b J : Ser F h).c i = errv F Y (ex F (i + b)) J
  | [] => rfl
  | j :: J => by
    show mul F (Y j) (ex F (j * (i + b))) ^^^ (syn Y hY b J : Ser F h).c i = mul F (Y j) (pw F (ex F (i + b)) j) ^^^ errv F Y (ex F (i + b)) J
    rw [syn_c b i J, pw_ex h, Nat.mul_comm]
theorem no_err {Y : Nat → Nat} {hY : ∀ j, Y j < F.size} {b : Nat} (hY0 : ∀ j, Y j ≠ 0) {J : List Nat} (nd : J.Nodup) (hJ : ∀ j ∈ J, j < F.size - 1) (hJb : ∀ j ∈ J, ex F (j * b) ≠ 0) {M : Nat} (hν : J.length ≤ M) (hz : ∀ i, i < M → (syn Y hY b J : Ser F h).c i = 0) : J = [] := by
  rcases J with _ | ⟨j, J⟩
  · rfl
  · exfalso
    have e : (evl Y hY b (j :: J) : Ser F h) = zr := Ser.same fun n => by
      by_cases hn : n < (j :: J).length
      · rw [← syn_loc, mul_c]
        exact xs_zero fun i hi => by
          show mul F ((syn Y hY b (j :: J) : Ser F h).c i) _ = 0
          rw [hz i (by omega), zero_mul h]
      · exact evl_deg (j :: J) n (by omega)
    have := evl_ne (h := h) (Y := Y) (hY := hY) (b := b) hY0 (hJ j (by simp)) (hJb j (by simp)) nd hJ (by simp)
    rw [e] at this
    exact this (ve_zero h (fun _ _ => rfl))
theorem ev_ser {l : List Nat} {p : Ser F h} {n : Nat} (hc : ∀ i, co l i = p.c i) (d : Deg p n) (x : Nat) : ev F l x = at_ p n x := by
  rw [← ev_of_le h (Nat.le_max_left l.length n), ← at_ext d (Nat.le_max_right l.length n)]
  exact ve_congr fun i _ => hc i

/-- The same places in another order. -/
theorem syn_perm {Y : Nat → Nat} {hY : ∀ j, Y j < F.size} {b : Nat} {J K : List Nat} (p : J.Perm K) : (syn Y hY b J : Ser F h) = syn Y hY b K := by
  induction p with
  | nil => rfl
  | cons x _ ih => show _ + _ = _ + _; rw [ih]
  | swap x y l => show _ + (_ + _) = _ + (_ + _); rw [← sadd_assoc, ← sadd_assoc, sadd_comm (geo y _ _ _)]
  | trans _ _ i1 i2 => rw [i1, i2]
theorem loc_perm {J K : List Nat} (p : J.Perm K) : (loc J : Ser F h) = loc K := by
  induction p with
  | nil => rfl
  | cons x _ ih => show _ * _ = _ * _; rw [ih]
  | swap x y l => show _ * (_ * _) = _ * (_ * _); rw [smul_left_comm]
  | trans _ _ i1 i2 => rw [i1, i2]
theorem evl_perm {Y : Nat → Nat} {hY : ∀ j, Y j < F.size} {b : Nat} {J K : List Nat} (p : J.Perm K) : (evl Y hY b J : Ser F h) = evl Y hY b K := by
  rw [← syn_loc, ← syn_loc, syn_perm p, loc_perm p]

/-- An element at which the locator is 0 is the inverse of one of its powers. -/
theorem lev_root (h : Six F) {i : Nat} (hi : i < F.size) : ∀ J : List Nat, lev F i J = 0 → ∃ j ∈ J, mul F (ex F j) i = 1
  | [], e => absurd e (by show (1 : Nat) ≠ 0; omega)
  | j :: J, e => by
    by_cases h0 : 1 ^^^ mul F (ex F j) i = 0
    · refine ⟨j, by simp, ?_⟩
      have : 1 ^^^ (1 ^^^ mul F (ex F j) i) = 1 ^^^ 0 := by rw [h0]
      rwa [← Nat.xor_assoc, Nat.xor_self, Nat.zero_xor, Nat.xor_zero] at this
    · have h1 : lev F i J = 0 := by
        rcases Nat.eq_zero_or_pos (lev F i J) with h2 | h2
        · exact h2
        · exact absurd e (mul_ne_zero h (fac_lt h j i) (lev_lt h i J) h0 (by omega))
      obtain ⟨k, hk, e2⟩ := lev_root h hi J h1
      exact ⟨k, by simp [hk], e2⟩
theorem inv_uniq (h : Six F) {a x : Nat} (ha : a < F.size) (hx : x < F.size) (ha0 : a ≠ 0) (e : mul F a x = 1) : inv F a = x := by
  have e2 : mul F (mul F (inv F a) a) x = inv F a := by rw [mul_assoc h (inv_lt h a) ha hx, e, mul_one h (inv_lt h a)]
  rw [mul_comm h (inv_lt h a) ha, mul_inv h ha ha0, one_mul h hx] at e2
  exact e2.symm
theorem inv_pos (h : Six F) {a : Nat} (ha : a < F.size) (ha0 : a ≠ 0) : inv F a ≠ 0 := by
  intro e
  have := mul_inv h ha ha0
  rw [e, mul_zero h ha] at this
  cases this
theorem inv_inv (h : Six F) {a : Nat} (ha : a < F.size) (ha0 : a ≠ 0) : inv F (inv F a) = a := inv_uniq h (inv_lt h a) ha (inv_pos h ha ha0) (by rw [mul_comm h (inv_lt h a) ha, mul_inv h ha ha0])
/-- The places found below an element. -/
structure Found (F : Fld) (J K : List Nat) (i : Nat) : Prop where
  nd : K.Nodup
  mem : ∀ j, j ∈ K ↔ j ∈ J ∧ inv F (ex F j) < i
theorem Found.start (h : Six F) {J : List Nat} (hJ : ∀ j ∈ J, j < F.size - 1) : Found F J [] 1 := ⟨by simp, fun j => ⟨fun hk => by simp at hk, fun ⟨h1, h2⟩ => by
  have := inv_pos h (exl h j) (ex_ne h (hJ j h1)); omega⟩⟩
theorem Found.skip (h : Six F) {J K : List Nat} (hJ : ∀ j ∈ J, j < F.size - 1) {i : Nat} (hi : i < F.size) (hl : lev F i J ≠ 0) (f : Found F J K i) : Found F J K (i + 1) := ⟨f.nd, fun j => by
  rw [f.mem]
  refine ⟨fun ⟨h1, h2⟩ => ⟨h1, by omega⟩, fun ⟨h1, h2⟩ => ⟨h1, ?_⟩⟩
  by_cases e : inv F (ex F j) = i
  · exact absurd (by rw [← e]; exact lev_zero h (hJ j h1) J h1) hl
  · omega⟩
theorem Found.hit (h : Six F) {J K : List Nat} (hJ : ∀ j ∈ J, j < F.size - 1) {i : Nat} (hi : i < F.size) (hi0 : i ≠ 0) (hl : lev F i J = 0) (f : Found F J K i) : ∃ j, j ∈ J ∧ ex F j = inv F i ∧ Found F J (K ++ [j]) (i + 1) := by
  obtain ⟨j, hj, e⟩ := lev_root h hi J hl
  have hj0 := ex_ne h (hJ j hj)
  have ei : inv F (ex F j) = i := inv_uniq h (exl h j) hi hj0 e
  have ej : ex F j = inv F i := by rw [← ei, inv_inv h (exl h j) hj0]
  refine ⟨j, hj, ej, ?_, fun k => ?_⟩
  · rw [List.nodup_append]
    refine ⟨f.nd, by simp, fun a ha b hb => ?_⟩
    have hb' : b = j := by simpa using hb
    subst hb'
    intro e2
    subst e2
    have := ((f.mem a).1 ha).2
    omega
  · rw [List.mem_append, f.mem]
    constructor
    · rintro (⟨h1, h2⟩ | h1)
      · exact ⟨h1, by omega⟩
      · have : k = j := by simpa using h1
        subst this
        exact ⟨hj, by omega⟩
    · rintro ⟨h1, h2⟩
      by_cases e2 : inv F (ex F k) = i
      · right
        have e3 : ex F k = inv F i := by rw [← e2, inv_inv h (exl h k) (ex_ne h (hJ k h1))]
        have : k = j := ex_inj h (hJ k h1) (hJ j hj) (e3.trans ej.symm)
        simp [this]
      · left; exact ⟨h1, by omega⟩
theorem Found.le {J K : List Nat} {i : Nat} (f : Found F J K i) : K.length ≤ J.length := f.nd.length_le_of_subset (fun j hj => ((f.mem j).1 hj).1)
theorem Found.all (h : Six F) {J K : List Nat} (nd : J.Nodup) (f : Found F J K F.size) : K.Perm J := (List.perm_ext_iff_of_nodup f.nd nd).2 fun j => by
  rw [f.mem]
  exact ⟨fun hh => hh.1, fun hh => ⟨hh, inv_lt h _⟩⟩
theorem Found.full {J K : List Nat} {i : Nat} (nd : J.Nodup) (f : Found F J K i) (hl : K.length = J.length) : K.Perm J := by
  have hsub : K ⊆ J := fun j hj => ((f.mem j).1 hj).1
  refine (List.perm_ext_iff_of_nodup f.nd nd).2 fun j => ⟨fun hj => hsub hj, fun hj => ?_⟩
  by_cases hk : j ∈ K
  · exact hk
  · exfalso
    have hn : (j :: K).Nodup := List.nodup_cons.2 ⟨hk, f.nd⟩
    have := hn.length_le_of_subset (fun i hi => by
      rcases List.mem_cons.1 hi with h1 | h1
      · rw [h1]; exact hj
      · exact hsub h1 : (j :: K) ⊆ J)
    simp at this; omega

/-- The denominators, step by step. -/
theorem den_step (h : Six F) {d x i k : Nat} {K : List Nat} {t : Nat} (hd : d < F.size) (hne : k ≠ i) (e : mul F d (levx F x i (k :: K)) = t) : mul F (mul F d (1 ^^^ mul F (ex F k) x)) (levx F x i K) = t := by
  rw [mul_assoc h hd (fac_lt h k x) (levx_lt h x i K)]
  unfold levx at e
  rw [if_neg hne] at e
  exact e
theorem magn (h : Six F) {y i b l : Nat} (hy : y < F.size) (hi : i < F.size - 1) (hl : l < F.size) (hl0 : l ≠ 0) (hb : b < 2) :
    (b = 0 → mul F (mul F (mul F y (ex F (i * b))) l) (inv F l) = y) ∧ (b ≠ 0 → mul F (mul F (mul F (mul F y (ex F (i * b))) l) (inv F l)) (inv F (ex F i)) = y) := by
  have e1 : mul F (mul F (mul F y (ex F (i * b))) l) (inv F l) = mul F y (ex F (i * b)) := by
    rw [mul_assoc h (mul_lt h hy) hl (inv_lt h l), mul_inv h hl hl0, mul_one h (mul_lt h hy)]
  rw [e1]
  refine ⟨fun hb0 => ?_, fun hb0 => ?_⟩
  · subst hb0
    exact mul_one h hy
  · have : b = 1 := by omega
    subst this
    rw [Nat.mul_one, mul_assoc h hy (exl h i) (inv_lt h _), inv_ex h hi, mul_one h hy]

theorem co_set (l : List Nat) (p v i : Nat) (hp : p < l.length) : co (l.set p v) i = if i = l.length - 1 - p then v else co l i := by
  unfold co
  rw [List.length_set]
  by_cases hi : i < l.length
  · rw [if_pos hi, if_pos hi, nth_set hp]
    by_cases e : i = l.length - 1 - p
    · rw [if_pos e, if_pos (by omega)]
    · rw [if_neg e, if_neg (by omega)]
  · rw [if_neg hi, if_neg hi, if_neg (by omega)]
theorem list_of_co {a b : List Nat} (hl : a.length = b.length) (hc : ∀ i, co a i = co b i) : a = b := by
  apply List.ext_getElem hl
  intro i h1 h2
  have := hc (a.length - 1 - i)
  unfold co at this
  rw [if_pos (by omega), if_pos (by omega), show a.length - 1 - (a.length - 1 - i) = i by omega, show b.length - 1 - (a.length - 1 - i) = i by omega, nth_eq h1, nth_eq h2] at this
  exact this
/-- One error is taken away. -/
theorem Rcv.next {Y : Nat → Nat} {L R K : List Nat} {j : Nat} (r : Rcv F Y L R (j :: K)) (nj : j ∉ K) (hj : j < L.length) : Rcv F Y L (R.set (L.length - 1 - j) (nth R (L.length - 1 - j) ^^^ Y j)) K := by
  have hl := r.len
  refine ⟨by rw [List.length_set]; exact hl, fun i => ?_⟩
  rw [co_set _ _ _ _ (by omega), hl]
  by_cases e : i = L.length - 1 - (L.length - 1 - j)
  · rw [if_pos e]
    have ei : i = j := by omega
    subst ei
    have e2 := r.co i
    have e3 : RS.co R i = nth R (L.length - 1 - i) := by rw [← hl]; unfold RS.co; rw [if_pos (by omega)]
    rw [← e3, e2]
    have e4 : errc Y (i :: K) i = Y i := by unfold errc; rw [if_pos (by simp)]
    have e5 : errc Y K i = 0 := by unfold errc; rw [if_neg nj]
    rw [e4, e5, Nat.xor_assoc, Nat.xor_self]
  · rw [if_neg e, r.co i]
    congr 1
    unfold errc
    have : i ≠ j := by omega
    by_cases h1 : i ∈ K
    · rw [if_pos (by simp [h1]), if_pos h1]
    · rw [if_neg (by simp [h1, this]), if_neg h1]
theorem Rcv.done {Y : Nat → Nat} {L R : List Nat} (r : Rcv F Y L R []) : R = L := list_of_co r.len fun i => by
  rw [r.co i]
  unfold errc
  rw [if_neg (by simp), Nat.xor_zero]
theorem Rcv.perm {Y : Nat → Nat} {L R J K : List Nat} (r : Rcv F Y L R J) (p : J.Perm K) : Rcv F Y L R K := ⟨r.len, fun i => by
  rw [r.co i]
  unfold errc
  simp only [p.mem_iff]⟩
/-- The value of a list, coefficient by coefficient from the highest. -/
theorem ev_snoc (h : Six F) {l : List Nat} {c a : Nat} (hl : El F l) (hc : c < F.size) (ha : a < F.size) : ev F (l ++ [c]) a = mul F a (ev F l a) ^^^ c := by
  unfold ev
  rw [List.length_append, List.length_singleton]
  unfold ve
  rw [xs_front]
  have e0 : mul F (co (l ++ [c]) 0) (pw F a 0) = c := by
    rw [co_append, if_pos (by simp)]
    show mul F c 1 = c
    exact mul_one h hc
  rw [e0, Nat.xor_comm]
  congr 1
  rw [mul_xs_right h ha]
  refine xs_congr fun i hi => ?_
  show mul F (co (l ++ [c]) (i + 1)) (mul F (pw F a i) a) = mul F a (mul F (co l i) (pw F a i))
  have e1 : co (l ++ [c]) (i + 1) = co l i := by
    rw [co_append, if_neg (by simp)]; rfl
  rw [e1, mul_comm h ha (mul_lt h (co_lt hl i)), mul_assoc h (co_lt hl i) (pw_lt h i) ha]
end Go.Qz.RS
