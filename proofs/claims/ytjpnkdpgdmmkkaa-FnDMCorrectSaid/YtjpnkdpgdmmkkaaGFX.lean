/-
  Plain facts on the six fields: products by doubling, the table of logarithms. No program in sight.
-/
import Derived.Test.YtjpnkdpgdmmkkaaGFP
import Derived.KernelRfl
namespace Go.Qz.RS
set_option linter.unusedVariables false

theorem Six.two {F : Fld} (h : Six F) : ∃ m, F.size = 2 ^ m ∧ 2 ≤ m ∧ m ≤ 12 ∧ 2 ^ m ≤ F.prim ∧ F.prim < 2 ^ (m + 1) := by
  obtain ⟨k, hk, rfl⟩ := h
  rcases k with _ | _ | _ | _ | _ | _ | k
  · exact ⟨4, by decide⟩
  · exact ⟨6, by decide⟩
  · exact ⟨8, by decide⟩
  · exact ⟨8, by decide⟩
  · exact ⟨10, by decide⟩
  · exact ⟨12, by decide⟩
  · omega

theorem testBit_top {x m : Nat} (h1 : 2 ^ m ≤ x) (h2 : x < 2 ^ (m + 1)) : x.testBit m = true := by
  rw [Nat.testBit_eq_decide_div_mod_eq]
  have hp : 0 < 2 ^ m := Nat.two_pow_pos m
  have : x / 2 ^ m = 1 := by
    apply Nat.div_eq_of_lt_le
    · omega
    · rw [Nat.pow_succ] at h2; omega
  simp [this]

theorem xor_low {x y m : Nat} (h1 : 2 ^ m ≤ x) (h2 : x < 2 ^ (m + 1)) (h3 : 2 ^ m ≤ y) (h4 : y < 2 ^ (m + 1)) : x ^^^ y < 2 ^ m := by
  apply Nat.lt_pow_two_of_testBit
  intro i hi
  rw [Nat.testBit_xor]
  by_cases h : i = m
  · subst h
    rw [testBit_top h1 h2, testBit_top h3 h4]; rfl
  · have hle : 2 ^ (m + 1) ≤ 2 ^ i := Nat.pow_le_pow_right (by omega) (by omega)
    rw [Nat.testBit_lt_two_pow (by omega), Nat.testBit_lt_two_pow (by omega)]; rfl

/-- Less the primitive polynomial, where too long. -/
def red (F : Fld) (o : Nat) : Nat := if F.size ≤ o then o ^^^ F.prim else o
theorem red_lt {F : Fld} (h : Six F) {o : Nat} (ho : o < 2 * F.size) : red F o < F.size := by
  obtain ⟨m, e, _, _, h1, h2⟩ := h.two
  unfold red
  split
  · rename_i hh
    rw [e] at hh ho ⊢
    exact xor_low hh (by rw [Nat.pow_succ]; omega) h1 h2
  · omega
theorem step_red {F : Fld} (h : Six F) {x : Nat} (hx : x < F.size) : step F x = red F (2 * x) := by
  have hr := red_lt h (o := 2 * x) (by omega)
  obtain ⟨m, e, _⟩ := h.two
  unfold step
  unfold red at hr ⊢
  split
  · rename_i hh
    rw [if_pos hh] at hr
    rw [e] at hr ⊢
    exact Nat.and_two_pow_sub_one_of_lt_two_pow hr
  · rfl

/-- A product, from the highest bit on. -/
def mgo (F : Fld) (a b : Nat) : Nat → Nat → Nat
  | 0, o => o
  | k + 1, o => mgo F a b k (if b / 2 ^ k % 2 = 1 then red F (2 * o) ^^^ a else red F (2 * o))
/-- The product of two elements. -/
def mul (F : Fld) (a b : Nat) : Nat := mgo F a b F.size.log2 0

theorem xor_lt_size {F : Fld} (h : Six F) {x y : Nat} (hx : x < F.size) (hy : y < F.size) : x ^^^ y < F.size := by
  obtain ⟨m, e, _⟩ := h.two
  rw [e] at hx hy ⊢
  exact Nat.xor_lt_two_pow hx hy

theorem mgo_lt {F : Fld} (h : Six F) {a b : Nat} (ha : a < F.size) : ∀ k o, o < F.size → mgo F a b k o < F.size
  | 0, _, ho => ho
  | k + 1, o, ho => by
    have hr := red_lt h (o := 2 * o) (by omega)
    unfold mgo
    apply mgo_lt h ha k
    split
    · exact xor_lt_size h hr ha
    · exact hr
theorem mul_lt {F : Fld} (h : Six F) {a b : Nat} (ha : a < F.size) : mul F a b < F.size := mgo_lt h ha _ _ (by have := h.bounds; omega)

theorem mgo_zero {F : Fld} (h : 0 < F.size) (a b : Nat) : ∀ k, b < 2 ^ k → ∀ j, mgo F a b (k + j) 0 = mgo F a b k 0
  | k, hb, 0 => rfl
  | k, hb, j + 1 => by
    have hlt : b < 2 ^ (k + j) := Nat.lt_of_lt_of_le hb (Nat.pow_le_pow_right (by omega) (by omega))
    rw [show k + (j + 1) = (k + j) + 1 by omega]
    have h1 : (if b / 2 ^ (k + j) % 2 = 1 then red F (2 * 0) ^^^ a else red F (2 * 0)) = 0 := by
      rw [Nat.div_eq_of_lt hlt]
      simp [red, show ¬ F.size ≤ 0 by omega]
    show mgo F a b (k + j) (if b / 2 ^ (k + j) % 2 = 1 then red F (2 * 0) ^^^ a else red F (2 * 0)) = _
    rw [h1]
    exact mgo_zero h a b k hb j

theorem mul_two {F : Fld} (h : Six F) {a : Nat} (ha : a < F.size) : mul F a 2 = step F a := by
  obtain ⟨m, e, h2, _⟩ := h.two
  have hs := h.bounds
  unfold mul
  rw [e, Nat.log2_two_pow, show m = 2 + (m - 2) by omega, mgo_zero (by omega) a 2 2 (by decide)]
  have h0 : red F 0 = 0 := by simp [red]; omega
  simp [mgo, h0]
  rw [step_red h ha]

/-- The powers are all different, by a set of bits. -/
def chk (F : Fld) : Nat → Nat → Nat → Nat
  | 0, _, m => m
  | n + 1, x, m => match m.testBit x with
    | true => 0
    | false => chk F n (step F x) (m ||| 1 <<< x)

theorem chk_said (F : Fld) : ∀ n k m, (∀ a, m.testBit a = true ↔ ∃ j, j < k ∧ ex F j = a) → ∀ M, chk F n (ex F k) m = M → M ≠ 0 →
    (∀ a, M.testBit a = true ↔ ∃ j, j < k + n ∧ ex F j = a) ∧ ∀ j, k ≤ j → j < k + n → ∀ i, i < j → ex F i ≠ ex F j
  | 0, k, m, hm, M, hM, h0 => by
    simp only [chk] at hM
    subst hM
    exact ⟨hm, fun j h1 h2 => by omega⟩
  | n + 1, k, m, hm, M, hM, h0 => by
    unfold chk at hM
    by_cases hb : m.testBit (ex F k) = true
    · rw [hb] at hM
      exact absurd hM.symm h0
    · have hb' : m.testBit (ex F k) = false := by simpa using hb
      rw [hb'] at hM
      obtain ⟨h1, h2⟩ := chk_said F n (k + 1) (m ||| 1 <<< ex F k) (fun a => by
        rw [Nat.testBit_or, Bool.or_eq_true, hm, Nat.one_shiftLeft, Nat.testBit_two_pow]
        simp only [decide_eq_true_eq]
        constructor
        · rintro (⟨j, hj, rfl⟩ | rfl)
          · exact ⟨j, by omega, rfl⟩
          · exact ⟨k, by omega, rfl⟩
        · rintro ⟨j, hj, rfl⟩
          by_cases h : j = k
          · subst h; exact .inr rfl
          · exact .inl ⟨j, by omega, rfl⟩) M hM h0
      refine ⟨fun a => by rw [h1 a, show k + 1 + n = k + (n + 1) by omega], fun j h3 h4 i hi => ?_⟩
      by_cases h : j = k
      · subst h
        intro e
        exact hb ((hm _).2 ⟨i, hi, e⟩)
      · exact h2 j (by omega) (by omega) i hi

set_option maxRecDepth 1000000 in
theorem chk_six : ∀ k, k < 6 → chk (six k) ((six k).size - 1) 1 0 = 2 ^ (six k).size - 2 := by
  intro k hk
  rcases k with _ | _ | _ | _ | _ | _ | k
  · kernel_rfl
  · kernel_rfl
  · kernel_rfl
  · kernel_rfl
  · kernel_rfl
  · kernel_rfl
  · omega

theorem Six.powers {F : Fld} (h : Six F) : (∀ a, 0 < a → a < F.size → ∃ j, j < F.size - 1 ∧ ex F j = a) ∧ (∀ j, j < F.size - 1 → ∀ i, i < j → ex F i ≠ ex F j) ∧ ∀ j, j < F.size - 1 → 0 < ex F j := by
  have hs := h.bounds
  have hc : chk F (F.size - 1) 1 0 = 2 ^ F.size - 2 := by
    obtain ⟨k, hk, rfl⟩ := h
    exact chk_six k hk
  have hp : 2 ^ 4 ≤ 2 ^ F.size := Nat.pow_le_pow_right (by omega) (by omega)
  obtain ⟨h1, h2⟩ := chk_said F (F.size - 1) 0 0 (fun a => by simp) _ hc (by omega)
  have hb : ∀ a, (2 ^ F.size - 2).testBit a = (decide (a < F.size) && !Nat.testBit 1 a) := fun a => by
    rw [show 2 ^ F.size - 2 = 2 ^ F.size - (1 + 1) by rfl, Nat.testBit_two_pow_sub_succ (by omega)]
  have h1b : ∀ a, Nat.testBit 1 a = decide (0 = a) := fun a => by
    rw [← Nat.pow_zero 2, Nat.testBit_two_pow]
  refine ⟨fun a h3 h4 => ?_, fun j h3 => h2 j (by omega) (by omega), fun j hj => ?_⟩
  · have := (h1 a).1 (by rw [hb, h1b]; simp [h4]; omega)
    simpa using this
  · rcases Nat.eq_zero_or_pos (ex F j) with e | e
    · have := (h1 0).2 ⟨j, by omega, e⟩
      rw [hb, h1b] at this
      simp at this
    · exact e

theorem lg_ex {F : Fld} (h : Six F) {n : Nat} (hn : n < F.size - 1) : lg F (ex F n) = n := by
  have hs := h.bounds
  have hi := h.powers.2.1
  unfold lg
  have : ∀ k, k ≤ F.size - 1 → ∀ n, n < k → (logs F k).getD (ex F n) 0 = n := by
    intro k
    induction k with
    | zero => intro _ n hn; omega
    | succ k ih =>
      intro hk n hn
      have hl := logs_length F k
      have hx := ex_lt F (by omega) n
      unfold logs
      rw [List.getD_eq_getElem?_getD, List.getElem?_set]
      by_cases e : n = k
      · subst e
        simp [hl, hx]
      · rw [if_neg (fun e2 => hi k (by omega) n (by omega) e2.symm), ← List.getD_eq_getElem?_getD]
        exact ih (by omega) n (by omega)
  exact this _ (Nat.le_refl _) n hn
theorem ex_lg {F : Fld} (h : Six F) {a : Nat} (h0 : 0 < a) (ha : a < F.size) : lg F a < F.size - 1 ∧ ex F (lg F a) = a := by
  obtain ⟨j, hj, rfl⟩ := h.powers.1 a h0 ha
  rw [lg_ex h hj]
  exact ⟨hj, rfl⟩
theorem ex_pos {F : Fld} (h : Six F) (n : Nat) (hn : n < F.size - 1) : 0 < ex F n := h.powers.2.2 n hn
end Go.Qz.RS
