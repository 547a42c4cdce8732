/-
  Plain facts on the bound between dark and light: it does not turn when all counts are so many times as great; two groups that are wide apart tell one. No program in sight.
-/
namespace Go.Qz.PX
set_option linter.unusedVariables false

/-- The highest peak so far: where, how high. -/
def k1 (b : Nat → Nat) : Nat → Nat × Nat
  | 0 => (0, 0)
  | k + 1 => if (k1 b k).2 < b k then (k, b k) else k1 b k
/-- The score of a second peak. -/
def sc2 (b : Nat → Nat) (fp x : Nat) : Int := (b x : Int) * ((x : Int) - (fp : Int)) * ((x : Int) - (fp : Int))
/-- The second peak so far. -/
def k2 (b : Nat → Nat) (fp : Nat) : Nat → Nat × Int
  | 0 => (0, 0)
  | k + 1 => if (k2 b fp k).2 < sc2 b fp k then (k, sc2 b fp k) else k2 b fp k
/-- The score of a valley. -/
def va (b : Nat → Nat) (lo hi mx x : Nat) : Int := ((x : Int) - lo) * ((x : Int) - lo) * ((hi : Int) - x) * ((mx : Int) - b x)
/-- The best valley so far, from above. -/
def k3 (b : Nat → Nat) (lo hi mx : Nat) : Nat → Nat × Int
  | 0 => (hi - 1, -1)
  | j + 1 => if (k3 b lo hi mx j).2 < va b lo hi mx (hi - 1 - j) then (hi - 1 - j, va b lo hi mx (hi - 1 - j)) else k3 b lo hi mx j
def lo (b : Nat → Nat) : Nat := min (k1 b 32).1 (k2 b (k1 b 32).1 32).1
def hi (b : Nat → Nat) : Nat := max (k1 b 32).1 (k2 b (k1 b 32).1 32).1
/-- Is there a bound. -/
def isB (b : Nat → Nat) : Bool := decide (2 < hi b - lo b)
/-- The bound, in groups. -/
def bound (b : Nat → Nat) : Nat := (k3 b (lo b) (hi b) (k1 b 32).2 (hi b - 1 - lo b)).1

theorem k1_scale (b : Nat → Nat) {c : Nat} (hc : 0 < c) : ∀ k, k1 (fun x => b x * c) k = ((k1 b k).1, (k1 b k).2 * c)
  | 0 => by simp [k1]
  | k + 1 => by
    simp only [k1]
    rw [k1_scale b hc k]
    dsimp only
    by_cases h : (k1 b k).2 < b k
    · rw [if_pos h, if_pos (Nat.mul_lt_mul_of_pos_right h hc)]
    · rw [if_neg h, if_neg (by have := Nat.mul_le_mul_right c (Nat.le_of_not_lt h); omega)]
theorem sc2_scale (b : Nat → Nat) (c fp x : Nat) : sc2 (fun x => b x * c) fp x = sc2 b fp x * (c : Int) := by
  unfold sc2
  rw [Int.natCast_mul]
  ac_rfl
theorem mul_lt_iff {a b c : Int} (hc : 0 < c) : a * c < b * c ↔ a < b :=
  ⟨fun h => Int.lt_of_mul_lt_mul_right h (by omega), fun h => Int.mul_lt_mul_of_pos_right h hc⟩
theorem k2_scale (b : Nat → Nat) {c : Nat} (hc : 0 < c) (fp : Nat) : ∀ k, k2 (fun x => b x * c) fp k = ((k2 b fp k).1, (k2 b fp k).2 * (c : Int))
  | 0 => by simp [k2]
  | k + 1 => by
    simp only [k2]
    rw [k2_scale b hc fp k, sc2_scale]
    dsimp only
    have hc' : (0 : Int) < (c : Int) := by omega
    by_cases h : (k2 b fp k).2 < sc2 b fp k
    · rw [if_pos h, if_pos ((mul_lt_iff hc').2 h)]
    · rw [if_neg h, if_neg (fun h' => h ((mul_lt_iff hc').1 h'))]
theorem va_scale (b : Nat → Nat) (c lo hi mx x : Nat) : va (fun x => b x * c) lo hi (mx * c) x = va b lo hi mx x * (c : Int) := by
  unfold va
  rw [Int.natCast_mul, Int.natCast_mul, ← Int.sub_mul]
  ac_rfl
theorem va_nonneg (b : Nat → Nat) (lo hi mx x : Nat) (h1 : lo ≤ x) (h2 : x ≤ hi) (h3 : b x ≤ mx) : 0 ≤ va b lo hi mx x := by
  unfold va
  exact Int.mul_nonneg (Int.mul_nonneg (Int.mul_nonneg (by omega) (by omega)) (by omega)) (by omega)
theorem k3_scale (b : Nat → Nat) {c : Nat} (hc : 0 < c) (lo hi mx : Nat) (hm : ∀ x, x < hi → b x ≤ mx) : ∀ j, j + lo + 1 ≤ hi →
    (k3 (fun x => b x * c) lo hi (mx * c) j).1 = (k3 b lo hi mx j).1 ∧
    ((k3 b lo hi mx j).2 = -1 ∧ (k3 (fun x => b x * c) lo hi (mx * c) j).2 = -1 ∨ 0 ≤ (k3 b lo hi mx j).2 ∧ (k3 (fun x => b x * c) lo hi (mx * c) j).2 = (k3 b lo hi mx j).2 * (c : Int))
  | 0, _ => ⟨rfl, .inl ⟨rfl, rfl⟩⟩
  | j + 1, hj => by
    obtain ⟨e1, e2⟩ := k3_scale b hc lo hi mx hm j (by omega)
    have hv := va_nonneg b lo hi mx (hi - 1 - j) (by omega) (by omega) (hm _ (by omega))
    have hs := va_scale b c lo hi mx (hi - 1 - j)
    have hc' : (0 : Int) < (c : Int) := by omega
    simp only [k3]
    rw [hs]
    rcases e2 with ⟨e2, e3⟩ | ⟨e2, e3⟩
    · have hvc := Int.mul_nonneg hv (Int.le_of_lt hc')
      rw [e2, e3, if_pos (by omega), if_pos (by omega)]
      exact ⟨rfl, .inr ⟨hv, rfl⟩⟩
    · rw [e3]
      by_cases h : (k3 b lo hi mx j).2 < va b lo hi mx (hi - 1 - j)
      · rw [if_pos h, if_pos ((mul_lt_iff hc').2 h)]
        exact ⟨rfl, .inr ⟨hv, rfl⟩⟩
      · rw [if_neg h, if_neg (fun h' => h ((mul_lt_iff hc').1 h'))]
        exact ⟨e1, .inr ⟨e2, e3⟩⟩
theorem k1_spec (b : Nat → Nat) : ∀ k, (∀ x, x < k → b x ≤ (k1 b k).2) ∧ ((k1 b k).2 = 0 ∧ (k1 b k).1 = 0 ∨ (k1 b k).1 < k ∧ b (k1 b k).1 = (k1 b k).2 ∧ 0 < (k1 b k).2)
  | 0 => ⟨fun x h => by omega, .inl ⟨rfl, rfl⟩⟩
  | k + 1 => by
    obtain ⟨h1, h2⟩ := k1_spec b k
    simp only [k1]
    by_cases h : (k1 b k).2 < b k
    · rw [if_pos h]
      refine ⟨fun x hx => ?_, .inr ⟨by simp, rfl, by dsimp only; omega⟩⟩
      dsimp only
      by_cases e : x = k
      · rw [e]; exact Nat.le_refl _
      · have := h1 x (by omega); omega
    · rw [if_neg h]
      refine ⟨fun x hx => ?_, ?_⟩
      · by_cases e : x = k
        · rw [e]; omega
        · exact h1 x (by omega)
      · rcases h2 with h2 | ⟨h2, h3⟩
        · exact .inl h2
        · exact .inr ⟨by omega, h3⟩
theorem k2_spec (b : Nat → Nat) (fp : Nat) : ∀ k, (∀ x, x < k → sc2 b fp x ≤ (k2 b fp k).2) ∧ ((k2 b fp k).2 = 0 ∧ (k2 b fp k).1 = 0 ∨ (k2 b fp k).1 < k ∧ sc2 b fp (k2 b fp k).1 = (k2 b fp k).2 ∧ 0 < (k2 b fp k).2)
  | 0 => ⟨fun x h => by omega, .inl ⟨rfl, rfl⟩⟩
  | k + 1 => by
    obtain ⟨h1, h2⟩ := k2_spec b fp k
    simp only [k2]
    have hn : 0 ≤ (k2 b fp k).2 := by rcases h2 with h2 | ⟨_, _, h2⟩ <;> omega
    by_cases h : (k2 b fp k).2 < sc2 b fp k
    · rw [if_pos h]
      refine ⟨fun x hx => ?_, .inr ⟨by simp, rfl, by dsimp only; omega⟩⟩
      dsimp only
      by_cases e : x = k
      · rw [e]; exact Int.le_refl _
      · have := h1 x (by omega); omega
    · rw [if_neg h]
      refine ⟨fun x hx => ?_, ?_⟩
      · by_cases e : x = k
        · rw [e]; omega
        · exact h1 x (by omega)
      · rcases h2 with h2 | ⟨h2, h3⟩
        · exact .inl h2
        · exact .inr ⟨by omega, h3⟩
theorem bounds_lt (b : Nat → Nat) : (k1 b 32).1 < 32 ∧ (k2 b (k1 b 32).1 32).1 < 32 := by
  constructor
  · rcases (k1_spec b 32).2 with h | h <;> omega
  · rcases (k2_spec b (k1 b 32).1 32).2 with h | h <;> omega
theorem isB_scale (b : Nat → Nat) {c : Nat} (hc : 0 < c) : isB (fun x => b x * c) = isB b ∧ (isB b = true → bound (fun x => b x * c) = bound b) := by
  have e1 : (k1 (fun x => b x * c) 32).1 = (k1 b 32).1 := by rw [k1_scale b hc]
  have e2 : (k1 (fun x => b x * c) 32).2 = (k1 b 32).2 * c := by rw [k1_scale b hc]
  have e3 : (k2 (fun x => b x * c) (k1 b 32).1 32).1 = (k2 b (k1 b 32).1 32).1 := by rw [k2_scale b hc]
  have hl : lo (fun x => b x * c) = lo b := by unfold lo; rw [e1, e3]
  have hh : hi (fun x => b x * c) = hi b := by unfold hi; rw [e1, e3]
  refine ⟨by unfold isB; rw [hl, hh], fun hb => ?_⟩
  have hb' : 2 < hi b - lo b := by simpa [isB] using hb
  have hlt := bounds_lt b
  unfold bound
  rw [hl, hh, e2]
  exact (k3_scale b hc (lo b) (hi b) (k1 b 32).2 (fun x hx => (k1_spec b 32).1 x (by unfold hi at hx; omega)) _ (by omega)).1

/-- How many are not 0, of the first ones. -/
def cnt (b : Nat → Nat) : Nat → Nat
  | 0 => 0
  | k + 1 => if 0 < b k then cnt b k + 1 else cnt b k
/-- The first and the last one that is not 0. -/
def fl (b : Nat → Nat) : Nat → Nat × Nat
  | 0 => (32, 0)
  | k + 1 => if 0 < b k then (min (fl b k).1 k, k) else fl b k
theorem cnt_mono (b : Nat → Nat) : ∀ d k, cnt b k ≤ cnt b (k + d)
  | 0, k => Nat.le_refl _
  | d + 1, k => by
    have := cnt_mono b d k
    show _ ≤ cnt b (k + d + 1)
    simp only [cnt]
    split <;> omega
theorem cnt_step (b : Nat → Nat) {x k : Nat} (hx : 0 < b x) (h : x < k) : cnt b x + 1 ≤ cnt b k := by
  have := cnt_mono b (k - (x + 1)) (x + 1)
  rw [show x + 1 + (k - (x + 1)) = k by omega] at this
  have e : cnt b (x + 1) = cnt b x + 1 := by simp [cnt, hx]
  omega
theorem cnt_three (b : Nat → Nat) {x y z k : Nat} (hx : 0 < b x) (hy : 0 < b y) (hz : 0 < b z) (h1 : x < y) (h2 : y < z) (h3 : z < k) : 3 ≤ cnt b k := by
  have a1 := cnt_step b hz h3
  have a2 := cnt_step b hy h2
  have a3 := cnt_step b hx h1
  omega
theorem fl_spec (b : Nat → Nat) : ∀ k, k ≤ 32 → (fl b k).1 = 32 ∧ (fl b k).2 = 0 ∧ (∀ x, x < k → b x = 0) ∨ (fl b k).1 < k ∧ 0 < b (fl b k).1 ∧ (fl b k).2 < k ∧ 0 < b (fl b k).2
  | 0, _ => .inl ⟨rfl, rfl, fun x h => by omega⟩
  | k + 1, hk => by
    have ih := fl_spec b k (by omega)
    simp only [fl]
    by_cases h : 0 < b k
    · rw [if_pos h]
      right
      dsimp only
      rcases ih with ⟨e1, e2, e3⟩ | ⟨e1, e2, e3, e4⟩
      · rw [e1, Nat.min_eq_right (by omega)]
        exact ⟨by omega, h, by omega, h⟩
      · rw [Nat.min_eq_left (by omega)]
        exact ⟨by omega, e2, by omega, h⟩
    · rw [if_neg h]
      rcases ih with ⟨e1, e2, e3⟩ | ⟨e1, e2, e3, e4⟩
      · left
        refine ⟨e1, e2, fun x hx => ?_⟩
        by_cases e : x = k
        · rw [e]; omega
        · exact e3 x (by omega)
      · right; exact ⟨by omega, e2, by omega, e4⟩
theorem sc2_pos (b : Nat → Nat) {fp x : Nat} (hb : 0 < b x) (hx : x ≠ fp) : 0 < sc2 b fp x := by
  unfold sc2
  rw [Int.mul_assoc]
  refine Int.mul_pos (by omega) ?_
  rcases Nat.lt_or_ge x fp with h | h
  · have := Int.mul_pos (a := (fp : Int) - x) (b := (fp : Int) - x) (by omega) (by omega)
    have e : ((x : Int) - fp) * ((x : Int) - fp) = ((fp : Int) - x) * ((fp : Int) - x) := by rw [← Int.neg_sub, Int.neg_mul_neg]
    rw [e]; exact this
  · exact Int.mul_pos (by omega) (by omega)
theorem pos_sc2 (b : Nat → Nat) {fp x : Nat} (h : 0 < sc2 b fp x) : 0 < b x ∧ x ≠ fp := by
  unfold sc2 at h
  refine ⟨?_, ?_⟩
  · rcases Nat.eq_zero_or_pos (b x) with e | e
    · rw [e] at h; simp at h
    · exact e
  · intro e; rw [e] at h; simp at h
/-- Two groups that are wide apart tell a bound. -/
theorem wide_isB (b : Nat → Nat) (h2 : cnt b 32 = 2) (hw : (fl b 32).1 + 2 < (fl b 32).2) : isB b = true := by
  rcases fl_spec b 32 (Nat.le_refl _) with ⟨e1, e2, _⟩ | ⟨e1, e2, e3, e4⟩
  · omega
  · have hk1 := k1_spec b 32
    have hk2 := k2_spec b (k1 b 32).1 32
    have hpos : 0 < (k1 b 32).2 := by have := hk1.1 _ e1; omega
    obtain ⟨f1, f2, _⟩ : (k1 b 32).1 < 32 ∧ b (k1 b 32).1 = (k1 b 32).2 ∧ 0 < (k1 b 32).2 := by rcases hk1.2 with h | h <;> first | omega | exact h
    have hfp : 0 < b (k1 b 32).1 := by omega
    unfold isB
    simp only [decide_eq_true_eq]
    unfold hi lo
    generalize (k1 b 32).1 = p at *
    have hs : 0 < (k2 b p 32).2 := by
      by_cases e : (fl b 32).1 = p
      · have := hk2.1 _ e3
        have := sc2_pos b (fp := p) e4 (by omega)
        omega
      · have := hk2.1 _ e1
        have := sc2_pos b (fp := p) e2 e
        omega
    obtain ⟨g1, g2, _⟩ : (k2 b p 32).1 < 32 ∧ sc2 b p (k2 b p 32).1 = (k2 b p 32).2 ∧ 0 < (k2 b p 32).2 := by rcases hk2.2 with h | h <;> first | omega | exact h
    obtain ⟨g3, g4⟩ := pos_sc2 b (by rw [g2]; exact hs)
    generalize (k2 b p 32).1 = q at *
    generalize (fl b 32).1 = f at *
    generalize (fl b 32).2 = l at *
    have three : ∀ x y z, x < 32 → y < 32 → z < 32 → 0 < b x → 0 < b y → 0 < b z → x ≠ y → y ≠ z → x ≠ z → False := by
      intro x y z hx hy hz bx by' bz h1 h2' h3
      have : ∀ x y z, 0 < b x → 0 < b y → 0 < b z → x < y → y < z → z < 32 → False := fun x y z bx by' bz h1 h2 h3 => by have := cnt_three b bx by' bz h1 h2 h3; omega
      rcases Nat.lt_or_gt_of_ne h1 with a | a <;> rcases Nat.lt_or_gt_of_ne h2' with c | c <;> rcases Nat.lt_or_gt_of_ne h3 with d | d <;>
        first
        | exact this x y z bx by' bz (by omega) (by omega) (by omega)
        | exact this x z y bx bz by' (by omega) (by omega) (by omega)
        | exact this y x z by' bx bz (by omega) (by omega) (by omega)
        | exact this y z x by' bz bx (by omega) (by omega) (by omega)
        | exact this z x y bz bx by' (by omega) (by omega) (by omega)
        | exact this z y x bz by' bx (by omega) (by omega) (by omega)
        | omega
    have hf : f = p ∨ f = q := by
      by_cases a : f = p
      · exact .inl a
      · by_cases c : f = q
        · exact .inr c
        · exact (three f p q e1 f1 g1 e2 hfp g3 a (fun e => g4 e.symm) c).elim
    have hl : l = p ∨ l = q := by
      by_cases a : l = p
      · exact .inl a
      · by_cases c : l = q
        · exact .inr c
        · exact (three l p q e3 f1 g1 e4 hfp g3 a (fun e => g4 e.symm) c).elim
    omega
end Go.Qz.PX
