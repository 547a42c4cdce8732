/-
  Two groups that alone are there, three or more apart: there is a bound, and it lies between them. Plain.
-/
import Derived.Test.YthgnmcofclndlaaPXP
namespace Go.Qz.PX
set_option linter.unusedVariables false

theorem k3_in (b : Nat → Nat) (lo hi mx : Nat) (h : lo + 2 ≤ hi) : ∀ j, j ≤ hi - 1 - lo → lo < (k3 b lo hi mx j).1 ∧ (k3 b lo hi mx j).1 < hi
  | 0, _ => by simp only [k3]; omega
  | j + 1, hj => by
    have ih := k3_in b lo hi mx h j (by omega)
    simp only [k3]
    split
    · dsimp only; omega
    · exact ih
/-- Two groups alone. -/
def Two (b : Nat → Nat) (a c : Nat) : Prop := a + 3 ≤ c ∧ c < 32 ∧ 0 < b a ∧ 0 < b c ∧ ∀ x, x < 32 → x ≠ a → x ≠ c → b x = 0
theorem two_bound {b : Nat → Nat} {a c : Nat} (h : Two b a c) : isB b = true ∧ a < bound b ∧ bound b < c := by
  obtain ⟨h1, h2, h3, h4, h5⟩ := h
  have hk1 := k1_spec b 32
  have hk2 := k2_spec b (k1 b 32).1 32
  have hpos : 0 < (k1 b 32).2 := by have := hk1.1 a (by omega); omega
  obtain ⟨f1, f2, _⟩ : (k1 b 32).1 < 32 ∧ b (k1 b 32).1 = (k1 b 32).2 ∧ 0 < (k1 b 32).2 := by rcases hk1.2 with h | h <;> first | omega | exact h
  have hp : (k1 b 32).1 = a ∨ (k1 b 32).1 = c := by
    by_cases e1 : (k1 b 32).1 = a
    · exact .inl e1
    · by_cases e2 : (k1 b 32).1 = c
      · exact .inr e2
      · have := h5 _ f1 e1 e2; omega
  have hq : (k1 b 32).1 = a ∧ (k2 b (k1 b 32).1 32).1 = c ∨ (k1 b 32).1 = c ∧ (k2 b (k1 b 32).1 32).1 = a := by
    have key : ∀ o, o < 32 → 0 < b o → o ≠ (k1 b 32).1 → (k2 b (k1 b 32).1 32).1 < 32 ∧ 0 < b (k2 b (k1 b 32).1 32).1 ∧ (k2 b (k1 b 32).1 32).1 ≠ (k1 b 32).1 := fun o ho hb hne => by
      have hs : 0 < (k2 b (k1 b 32).1 32).2 := by
        have := hk2.1 o ho
        have := sc2_pos b (fp := (k1 b 32).1) hb hne
        omega
      obtain ⟨g1, g2, _⟩ : (k2 b (k1 b 32).1 32).1 < 32 ∧ sc2 b (k1 b 32).1 (k2 b (k1 b 32).1 32).1 = (k2 b (k1 b 32).1 32).2 ∧ 0 < (k2 b (k1 b 32).1 32).2 := by rcases hk2.2 with h | h <;> first | omega | exact h
      exact ⟨g1, pos_sc2 b (by rw [g2]; exact hs)⟩
    rcases hp with hp | hp
    · obtain ⟨g1, g2, g3⟩ := key c h2 h4 (by omega)
      refine .inl ⟨hp, ?_⟩
      rcases Nat.lt_trichotomy (k2 b (k1 b 32).1 32).1 c with e | e | e
      · have := h5 _ g1 (by omega) (by omega); omega
      · exact e
      · have := h5 _ g1 (by omega) (by omega); omega
    · obtain ⟨g1, g2, g3⟩ := key a (by omega) h3 (by omega)
      refine .inr ⟨hp, ?_⟩
      rcases Nat.lt_trichotomy (k2 b (k1 b 32).1 32).1 a with e | e | e
      · have := h5 _ g1 (by omega) (by omega); omega
      · exact e
      · have := h5 _ g1 (by omega) (by omega); omega
  have hlo : lo b = a := by unfold lo; omega
  have hhi : hi b = c := by unfold hi; omega
  refine ⟨by unfold isB; rw [hlo, hhi]; simp; omega, ?_⟩
  unfold bound
  rw [hlo, hhi]
  exact k3_in b a c _ (by omega) _ (Nat.le_refl _)
/-- The bound parts two grays. -/
theorem bound_parts {b : Nat → Nat} {d l : Nat} (h : Two b (d / 8) (l / 8)) : d < bound b * 8 ∧ bound b * 8 ≤ l := by
  have := (two_bound h).2
  omega
end Go.Qz.PX
