/-
  As many modules of a QR symbol carry data as the standard's number says (plain). No program in sight.
-/
import Derived.Test.YthkiajighmhdoaaQKN1
import Derived.Test.YthkiajighmhdoaaQKN2
import Derived.Test.YthkiajighmhdoaaQKN3
import Derived.Test.YthkiajighmhdoaaQKN4
namespace Go.Qz.QK
open Go.Qz Go.Qz.QW
set_option linter.unusedVariables false

/-- The module carries no data. -/
def gvB (v r c : Nat) : Bool := decide (giv v (dimOf v) (al (cenOf v) (manyOf v) r c) r c)
theorem nearF_iff (a b : Nat) : nearF a b = true ↔ a ≤ b + 2 ∧ b ≤ a + 2 := by unfold nearF; simp [Nat.ble_eq]
theorem anyF_iff (r : Nat) : ∀ cs : List Nat, anyF r cs = true ↔ ∃ i, i < cs.length ∧ r ≤ nth cs i + 2 ∧ nth cs i ≤ r + 2
  | [] => by simp [anyF]
  | a :: l => by
    unfold anyF
    rw [Bool.or_eq_true, nearF_iff, anyF_iff r l]
    constructor
    · rintro (h | ⟨i, h1, h2⟩)
      · exact ⟨0, by simp, h⟩
      · exact ⟨i + 1, by simpa using h1, h2⟩
    · rintro ⟨i, h1, h2⟩
      cases i with
      | zero => exact .inl h2
      | succ i => exact .inr ⟨i, by simpa using h1, h2⟩
theorem fixF_iff (v n r c : Nat) : fixF v n r c = true ↔ (r ≤ 8 ∧ (c ≤ 8 ∨ n - 8 ≤ c)) ∨ (n - 8 ≤ r ∧ c ≤ 8) ∨ r = 6 ∨ c = 6 ∨ (7 ≤ v ∧ (r ≤ 5 ∧ n - 11 ≤ c ∨ c ≤ 5 ∧ n - 11 ≤ r)) := by
  unfold fixF
  simp only [Bool.or_eq_true, Bool.and_eq_true, Nat.ble_eq, Nat.beq_eq]
theorem cnrF_iff (n r c : Nat) : cnrF n r c = true ↔ ((r ≤ 6 + 2 ∧ 6 ≤ r + 2) ∧ ((c ≤ 6 + 2 ∧ 6 ≤ c + 2) ∨ (c ≤ n - 7 + 2 ∧ n - 7 ≤ c + 2))) ∨ ((r ≤ n - 7 + 2 ∧ n - 7 ≤ r + 2) ∧ (c ≤ 6 + 2 ∧ 6 ≤ c + 2)) := by
  unfold cnrF
  simp only [Bool.or_eq_true, Bool.and_eq_true, nearF_iff]
theorem gv_fast {v n m : Nat} {cs : List Nat} (h : Mid n m cs) (r c : Nat) : gvF v n cs r c = true ↔ giv v n (al cs m r c) r c := by
  unfold gvF giv
  rw [Bool.or_eq_true, fixF_iff]
  have key : (anyF r cs && (anyF c cs && !cnrF n r c)) = true ↔ 0 ≤ al cs m r c := by
    simp only [Bool.and_eq_true, Bool.not_eq_true', Bool.eq_false_iff, ne_eq, anyF_iff, cnrF_iff, h.len]
    constructor
    · rintro ⟨⟨i, hi, h1⟩, ⟨k, hk, h2⟩, h3⟩
      have hc : cnr m i k = false := by
        rw [Bool.eq_false_iff]
        intro hc
        rcases (cnr_iff m i k).1 hc with ⟨rfl, rfl | rfl⟩ | ⟨rfl, rfl⟩
        · rw [h.first (by omega)] at h1 h2; exact h3 (.inl ⟨h1, .inl h2⟩)
        · rw [h.first (by omega)] at h1; rw [h.last (by omega)] at h2; exact h3 (.inl ⟨h1, .inr h2⟩)
        · rw [h.last (by omega)] at h1; rw [h.first (by omega)] at h2; exact h3 (.inr ⟨h1, h2⟩)
      rw [h.al_hit hi hk hc ((far_le _ _ _ _ _).2 ⟨h1.1, h1.2, h2.1, h2.2⟩)]
      omega
    · intro h0
      by_cases hx : ∃ i k, i < m ∧ k < m ∧ cnr m i k = false ∧ far r c (nth cs i) (nth cs k) ≤ 2
      · obtain ⟨i, k, hi, hk, hc, hf⟩ := hx
        have hf2 := (far_le _ _ _ _ _).1 hf
        have hno := cnr_no hc
        refine ⟨⟨i, hi, by omega⟩, ⟨k, hk, by omega⟩, ?_⟩
        have a1 := h.at_ hi
        have a2 := h.at_ hk
        have h25 := (h.n25 (by omega)).1
        rcases a1 with a1 | a1 | a1 <;> rcases a2 with a2 | a2 | a2 <;> omega
      · have := Mid.al_no (cs := cs) (r := r) (c := c) (fun i k hi hk hc => by
          rcases Nat.lt_or_ge 2 (far r c (nth cs i) (nth cs k)) with h4 | h4
          · exact h4
          · exact absurd ⟨i, k, hi, hk, hc, h4⟩ hx)
        omega
  rw [key]
  simp only [or_assoc]
theorem rowF_eq (n p j : Nat) : rowF n p j = rowO n p j := by
  unfold rowF rowO
  by_cases h : p % 2 = 0
  · rw [if_pos h, show Nat.beq (p % 2) 0 = true from by rw [Nat.beq_eq]; exact h]
  · rw [if_neg h, show Nat.beq (p % 2) 0 = false from by rw [Bool.eq_false_iff, ne_eq, Nat.beq_eq]; exact h]
theorem rgtF_eq (n p : Nat) : rgtF n p = rgt n p := by
  unfold rgtF rgt
  by_cases h : 8 + 2 * p < n
  · rw [if_pos h, show Nat.ble n (8 + 2 * p) = false from by rw [Bool.eq_false_iff, ne_eq, Nat.ble_eq]; omega]
  · rw [if_neg h, show Nat.ble n (8 + 2 * p) = true from by rw [Nat.ble_eq]; omega]
theorem one_eq (b : Bool) : one b = if b = true then 0 else 1 := by cases b <;> rfl
theorem cq_eq (v n : Nat) (cs : List Nat) (r c : Nat) (h6 : c ≠ 6) (h7 : c - 1 ≠ 6) : cq v n cs r c = one (gvF v n cs r c) + one (gvF v n cs r (c - 1)) := by
  unfold cq
  split
  · rename_i h1 h2 h3
    rw [Nat.ble_eq] at h1 h2
    have key : ∀ c, c ≠ 6 → gvF v n cs r c = false := fun c hc => by
      unfold gvF
      rw [h3, Bool.false_and, Bool.or_false, Bool.eq_false_iff, ne_eq, fixF_iff]
      omega
    rw [key c h6, key (c - 1) h7]; rfl
  · rfl
theorem nb_cj (v n : Nat) (cs : List Nat) (gv : Nat → Nat → Bool) (ho : n % 2 = 1) (hn : 21 ≤ n) (hg : ∀ r c, gv r c = gvF v n cs r c) (p : Nat) (hp : p < (n - 1) / 2) : ∀ j, j ≤ n → nb n gv (tix n p j 0) = nb n gv (tix n p 0 0) + cj v n cs p j
  | 0, _ => rfl
  | j + 1, hj => by
    have ih := nb_cj v n cs gv ho hn hg p hp j (by omega)
    have e1 : tix n p (j + 1) 0 = tix n p j 1 + 1 := by unfold tix; omega
    have e2 : tix n p j 1 = tix n p j 0 + 1 := by unfold tix; omega
    obtain ⟨_, _, h6, _⟩ := cix_rgt n p 0 ho hn hp (by omega)
    obtain ⟨_, _, h7, _⟩ := cix_rgt n p 1 ho hn hp (by omega)
    rw [Nat.sub_zero] at h6
    rw [e1, nb_succ, pos_tix _ _ _ _ (by omega) (by omega), e2, nb_succ, pos_tix _ _ _ _ (by omega) (by omega), ih]
    unfold posT
    show _ = _ + (cj v n cs p j + cq v n cs (rowF n p j) (rgtF n p))
    rw [rowF_eq, rgtF_eq, cq_eq _ _ _ _ _ h6 h7, one_eq, one_eq, hg, hg, Nat.sub_zero]
    dsimp only
    omega
theorem nb_cp (v n : Nat) (cs : List Nat) (gv : Nat → Nat → Bool) (ho : n % 2 = 1) (hn : 21 ≤ n) (hg : ∀ r c, gv r c = gvF v n cs r c) : ∀ p, p ≤ (n - 1) / 2 → nb n gv (tix n p 0 0) = cp v n cs p
  | 0, _ => by unfold tix; simp [nb, wy, cp]
  | p + 1, hp => by
    have ih := nb_cp v n cs gv ho hn hg p (by omega)
    have e : tix n (p + 1) 0 0 = tix n p n 0 := by have h := Nat.add_mul p 1 n; rw [Nat.one_mul] at h; unfold tix; omega
    rw [e, nb_cj v n cs gv ho hn hg p (by omega) n (Nat.le_refl _), ih]; rfl
theorem rooms (v : Nat) (h1 : 1 ≤ v) (h2 : v ≤ 40) : cp v (dimOf v) (cenOf v) ((dimOf v - 1) / 2) = roomOf v := by
  have hall : tabR.all okR = true := by
    have e : tabR = (tabR.drop 0).take 20 ++ ((tabR.drop 20).take 8 ++ ((tabR.drop 28).take 6 ++ ((tabR.drop 34).take 4 ++ (tabR.drop 38).take 2))) := rfl
    rw [e, List.all_append, List.all_append, List.all_append, List.all_append, cnt_0, cnt_1, cnt_2, cnt_3, cnt_4]; rfl
  rw [tabR_eq, List.all_map, List.all_eq_true] at hall
  have := hall (v - 1) (by simp; omega)
  simp only [Function.comp, okR, show v - 1 + 1 = v by omega] at this
  exact Nat.eq_of_beq_eq_true this
theorem gvB_fast (v : Nat) (h1 : 1 ≤ v) (h2 : v ≤ 40) (r c : Nat) : gvB v r c = gvF v (dimOf v) (cenOf v) r c := by
  have := gv_fast (v := v) (mid_ver v h1 h2) r c
  unfold gvB
  cases h : gvF v (dimOf v) (cenOf v) r c with
  | true => simpa using this.1 h
  | false =>
    rw [decide_eq_false_iff_not, ← this, h]; simp
theorem way_len (v : Nat) (h1 : 1 ≤ v) (h2 : v ≤ 40) : (wy (dimOf v) (gvB v) ((dimOf v - 1) * dimOf v)).length = roomOf v := by
  have hn := (mid_ver v h1 h2).n21
  have ho : dimOf v % 2 = 1 := by unfold dimOf; omega
  have h := nb_cp v (dimOf v) (cenOf v) (gvB v) ho hn (gvB_fast v h1 h2) ((dimOf v - 1) / 2) (Nat.le_refl _)
  rw [rooms v h1 h2] at h
  have e : tix (dimOf v) ((dimOf v - 1) / 2) 0 0 = (dimOf v - 1) * dimOf v := by
    unfold tix
    rw [Nat.add_zero, Nat.add_zero, Nat.mul_right_comm, show (dimOf v - 1) / 2 * 2 = dimOf v - 1 by omega]
  rw [e] at h
  exact h
end Go.Qz.QK
