/-
  Where a word of a block stands among all words: plain numbers. No condition beyond the bounds that each theorem states.
-/
import Derived.Test.YthkiajighmhdoaaQWT
namespace Go.Qz.QI
open Go.Qz Go.Qz.QW
set_option linter.unusedVariables false

/-- Some blocks: how many (nb), data words of the short ones (sh), words of correction (ec), how many are long (lg). -/
structure Sh where
  nb : Nat
  sh : Nat
  ec : Nat
  lg : Nat
structure Sh.Ok (s : Sh) : Prop where
  nb0 : 0 < s.nb
  nb1 : s.nb ≤ 81
  sh0 : 0 < s.sh
  sh1 : s.sh ≤ 123
  ec0 : 0 < s.ec
  ec1 : s.ec ≤ 30
  lg1 : s.lg < s.nb
def Sh.st (s : Sh) : Nat := s.nb - s.lg
/-- Data words of a block; all its words; all words. -/
def Sh.ds (s : Sh) (j : Nat) : Nat := if j < s.st then s.sh else s.sh + 1
def Sh.len (s : Sh) (j : Nat) : Nat := s.ds j + s.ec
def Sh.tot (s : Sh) : Nat := s.sh * s.nb + s.lg + s.ec * s.nb
/-- Where the i-th word of block j stands. -/
def Sh.at_ (s : Sh) (j i : Nat) : Nat := if i < s.sh then i * s.nb + j else if i < s.ds j then s.sh * s.nb + (j - s.st) else s.sh * s.nb + s.lg + (i - s.ds j) * s.nb + j

theorem two {nb i j k l : Nat} (h1 : j < nb) (h2 : l < nb) (h : i * nb + j = k * nb + l) : i = k ∧ j = l := by
  have e1 : (i * nb + j) / nb = i := by rw [Nat.add_comm, Nat.add_mul_div_right _ _ (by omega), Nat.div_eq_of_lt h1]; omega
  have e2 : (k * nb + l) / nb = k := by rw [Nat.add_comm, Nat.add_mul_div_right _ _ (by omega), Nat.div_eq_of_lt h2]; omega
  have e3 : i = k := by rw [← e1, ← e2, h]
  subst e3
  exact ⟨rfl, by omega⟩
theorem lt_row {nb i j n : Nat} (h1 : j < nb) (h2 : i < n) : i * nb + j < n * nb := by
  have : (i + 1) * nb ≤ n * nb := Nat.mul_le_mul_right _ (by omega)
  rw [Nat.add_mul] at this; omega
theorem Sh.at_inj {s : Sh} (hs : s.Ok) {j i l k : Nat} (hj : j < s.nb) (hl : l < s.nb) (hi : i < s.len j) (hk : k < s.len l) (h : s.at_ j i = s.at_ l k) : j = l ∧ i = k := by
  have hst : s.st + s.lg = s.nb := by have := hs.lg1; unfold Sh.st; omega
  unfold Sh.at_ at h
  by_cases a1 : i < s.sh
  · rw [if_pos a1] at h
    have b1 := lt_row hj a1
    by_cases a2 : k < s.sh
    · rw [if_pos a2] at h
      obtain ⟨e1, e2⟩ := two hj hl h
      exact ⟨e2, e1⟩
    · rw [if_neg a2] at h
      split at h <;> omega
  · rw [if_neg a1] at h
    by_cases a2 : k < s.sh
    · have b1 := lt_row hl a2
      rw [if_pos a2] at h
      split at h <;> omega
    · rw [if_neg a2] at h
      by_cases a3 : i < s.ds j
      · have c1 : s.st ≤ j := by unfold Sh.ds at a3; split at a3 <;> omega
        have c2 : i = s.sh := by unfold Sh.ds at a3; split at a3 <;> omega
        rw [if_pos a3] at h
        by_cases a4 : k < s.ds l
        · have c3 : s.st ≤ l := by unfold Sh.ds at a4; split at a4 <;> omega
          have c4 : k = s.sh := by unfold Sh.ds at a4; split at a4 <;> omega
          rw [if_pos a4] at h
          omega
        · rw [if_neg a4] at h
          omega
      · rw [if_neg a3] at h
        by_cases a4 : k < s.ds l
        · have c3 : s.st ≤ l := by unfold Sh.ds at a4; split at a4 <;> omega
          rw [if_pos a4] at h
          omega
        · rw [if_neg a4] at h
          obtain ⟨e1, e2⟩ := two (i := i - s.ds j) (k := k - s.ds l) hj hl (by omega)
          subst e2
          exact ⟨rfl, by omega⟩
theorem Sh.at_lt {s : Sh} (hs : s.Ok) {j i : Nat} (hj : j < s.nb) (hi : i < s.len j) : s.at_ j i < s.tot := by
  have hst : s.st + s.lg = s.nb := by have := hs.lg1; unfold Sh.st; omega
  unfold Sh.at_ Sh.tot
  unfold Sh.len at hi
  split
  · rename_i h; have := lt_row hj h; omega
  · split
    · rename_i h1 h2
      have : s.st ≤ j := by unfold Sh.ds at h2; split at h2 <;> omega
      omega
    · have := lt_row (i := i - s.ds j) (n := s.ec) hj (by omega); omega
theorem Sh.tot_le {s : Sh} (hs : s.Ok) : s.tot ≤ 13000 := by
  have h1 : s.sh * s.nb ≤ 123 * 81 := Nat.mul_le_mul hs.sh1 hs.nb1
  have h2 : s.ec * s.nb ≤ 30 * 81 := Nat.mul_le_mul hs.ec1 hs.nb1
  have := hs.lg1
  have := hs.nb1
  unfold Sh.tot; omega
theorem Sh.at_low {s : Sh} {j i : Nat} (h : i < s.sh) : s.at_ j i = i * s.nb + j := by unfold Sh.at_; rw [if_pos h]
theorem Sh.at_mid {s : Sh} {j : Nat} (h : s.st ≤ j) : s.at_ j s.sh = s.sh * s.nb + (j - s.st) := by
  unfold Sh.at_ Sh.ds
  rw [if_neg (by omega), if_neg (show ¬ j < s.st by omega), if_pos (by omega)]
theorem Sh.at_high {s : Sh} {j i : Nat} : s.at_ j (s.ds j + i) = s.sh * s.nb + s.lg + i * s.nb + j := by
  unfold Sh.at_
  rw [if_neg (by unfold Sh.ds; split <;> omega), if_neg (by omega), Nat.add_sub_cancel_left]
theorem Sh.ds_le (s : Sh) (j : Nat) : s.sh ≤ s.ds j ∧ s.ds j ≤ s.sh + 1 := by unfold Sh.ds; split <;> omega
theorem Sh.ds_lo {s : Sh} {j : Nat} (h : j < s.st) : s.ds j = s.sh := by unfold Sh.ds; rw [if_pos h]
theorem Sh.ds_hi {s : Sh} {j : Nat} (h : s.st ≤ j) : s.ds j = s.sh + 1 := by unfold Sh.ds; rw [if_neg (by omega)]

/-- The blocks of a version and level. -/
def shOf' (n l : Nat) : Sh := ⟨nbOf n l, shOf n l, ecOf n l, longOf n l⟩
theorem shOf_ok {n l : Nat} (h1 : 1 ≤ n) (h2 : n ≤ 40) (hl : l < 4) : (shOf' n l).Ok := by
  have h := fine n l h1 h2 hl
  exact ⟨h.nb0, h.nb1, h.sh0, h.sh1, by have := h.ec0; show 0 < ecOf n l; omega, h.ec1, h.lg⟩
theorem shOf_tot {n l : Nat} (h1 : 1 ≤ n) (h2 : n ≤ 40) (hl : l < 4) : (shOf' n l).tot = totOf n := by
  have h := (fine n l h1 h2 hl).tot
  show shOf n l * nbOf n l + longOf n l + ecOf n l * nbOf n l = _
  rw [Nat.mul_add, Nat.mul_comm (nbOf n l) (shOf n l), Nat.mul_comm (nbOf n l) (ecOf n l)] at h
  omega
/-- What has been filled so far: all words that stand ahead of a place. -/
def Upto (s : Sh) (raw : Nat → Nat) (f : Nat → Nat → Nat) (off : Nat) : Prop := ∀ j i, j < s.nb → i < s.len j → s.at_ j i < off → f j i = raw (s.at_ j i)
def put (f : Nat → Nat → Nat) (j0 i0 v : Nat) : Nat → Nat → Nat := fun j i => if j = j0 ∧ i = i0 then v else f j i
theorem Upto.zero (s : Sh) (raw : Nat → Nat) (f : Nat → Nat → Nat) : Upto s raw f 0 := fun j i _ _ h => by omega
theorem Upto.put_ {s : Sh} (hs : s.Ok) {raw : Nat → Nat} {f : Nat → Nat → Nat} {off j0 i0 : Nat} (h : Upto s raw f off) (hj : j0 < s.nb) (hi : i0 < s.len j0) (ho : s.at_ j0 i0 = off) : Upto s raw (put f j0 i0 (raw off)) (off + 1) := by
  intro j i h1 h2 h3
  unfold put
  by_cases e : j = j0 ∧ i = i0
  · obtain ⟨rfl, rfl⟩ := e
    rw [if_pos ⟨rfl, rfl⟩, ho]
  · rw [if_neg e]
    refine h j i h1 h2 ?_
    rcases Nat.lt_or_ge (s.at_ j i) off with h4 | h4
    · exact h4
    · exact absurd (Sh.at_inj hs h1 hj h2 hi (by omega)) e
end Go.Qz.QI
