/-
  Plain facts on the product of two elements: it is additive on both sides, it goes together, and the tables make it. No program in sight.
-/
import Derived.Test.YtjpnkdpgdmmkkaaGFX
import Derived.KernelRfl
namespace Go.Qz.RS
set_option linter.unusedVariables false

theorem top_iff {m u : Nat} (h : u < 2 ^ (m + 1)) : 2 ^ m ≤ u ↔ u.testBit m = true := by
  constructor
  · intro h1; exact testBit_top h1 h
  · intro h1
    rcases Nat.lt_or_ge u (2 ^ m) with h2 | h2
    · rw [Nat.testBit_lt_two_pow h2] at h1; cases h1
    · exact h2
theorem red_xor {F : Fld} (h : Six F) {u v : Nat} (hu : u < 2 * F.size) (hv : v < 2 * F.size) : red F (u ^^^ v) = red F u ^^^ red F v := by
  obtain ⟨m, e, _, _, _, _⟩ := h.two
  have hu' : u < 2 ^ (m + 1) := by rw [Nat.pow_succ]; omega
  have hv' : v < 2 ^ (m + 1) := by rw [Nat.pow_succ]; omega
  have huv : u ^^^ v < 2 ^ (m + 1) := Nat.xor_lt_two_pow hu' hv'
  unfold red
  rw [e]
  simp only [top_iff hu', top_iff hv', top_iff huv, Nat.testBit_xor]
  cases u.testBit m <;> cases v.testBit m
  · simp
  · simp [Nat.xor_assoc]
  · simp [Nat.xor_assoc, Nat.xor_comm v F.prim]
  · simp
    rw [Nat.xor_assoc, ← Nat.xor_assoc F.prim v F.prim, Nat.xor_comm F.prim v, Nat.xor_assoc v, Nat.xor_self, Nat.xor_zero]
theorem two_xor (x y : Nat) : 2 * (x ^^^ y) = 2 * x ^^^ 2 * y := by
  have := Nat.shiftLeft_xor_distrib (a := x) (b := y) (i := 1)
  simpa [Nat.shiftLeft_eq, Nat.mul_comm] using this

theorem bit_eq (b k : Nat) : (b / 2 ^ k % 2 = 1) ↔ b.testBit k = true := by
  rw [Nat.testBit_eq_decide_div_mod_eq]; simp

theorem mgo_left {F : Fld} (h : Six F) (a a' b : Nat) (ha : a < F.size) (ha' : a' < F.size) : ∀ k o o', o < F.size → o' < F.size → mgo F (a ^^^ a') b k (o ^^^ o') = mgo F a b k o ^^^ mgo F a' b k o'
  | 0, o, o', _, _ => rfl
  | k + 1, o, o', ho, ho' => by
    have hr := red_lt h (o := 2 * o) (by omega)
    have hr' := red_lt h (o := 2 * o') (by omega)
    have hx := red_xor h (u := 2 * o) (v := 2 * o') (by omega) (by omega)
    unfold mgo
    rw [two_xor, hx]
    split
    · rw [← mgo_left h a a' b ha ha' k _ _ (xor_lt_size h hr ha) (xor_lt_size h hr' ha')]
      congr 1
      rw [Nat.xor_assoc, Nat.xor_assoc, ← Nat.xor_assoc (red F (2 * o')), Nat.xor_comm (red F (2 * o')) a, Nat.xor_assoc a]
    · exact mgo_left h a a' b ha ha' k _ _ hr hr'
theorem mgo_right {F : Fld} (h : Six F) (a b b' : Nat) (ha : a < F.size) : ∀ k o o', o < F.size → o' < F.size → mgo F a (b ^^^ b') k (o ^^^ o') = mgo F a b k o ^^^ mgo F a b' k o'
  | 0, o, o', _, _ => rfl
  | k + 1, o, o', ho, ho' => by
    have hr := red_lt h (o := 2 * o) (by omega)
    have hr' := red_lt h (o := 2 * o') (by omega)
    have hx := red_xor h (u := 2 * o) (v := 2 * o') (by omega) (by omega)
    have ih := mgo_right h a b b' ha k
    unfold mgo
    rw [two_xor, hx]
    simp only [bit_eq, Nat.testBit_xor]
    cases b.testBit k <;> cases b'.testBit k
    · exact ih _ _ hr hr'
    · simp only [if_true, if_false, Bool.false_eq_true, Bool.bne_true, Bool.not_false]
      rw [← ih _ _ hr (xor_lt_size h hr' ha), Nat.xor_assoc]
    · simp only [Bool.bne_false, if_true, if_false, Bool.false_eq_true]
      rw [← ih _ _ (xor_lt_size h hr ha) hr', Nat.xor_assoc, Nat.xor_assoc, Nat.xor_comm a]
    · simp only [bne_self_eq_false, if_true, if_false, Bool.false_eq_true]
      rw [← ih _ _ (xor_lt_size h hr ha) (xor_lt_size h hr' ha)]
      congr 1
      rw [Nat.xor_assoc, ← Nat.xor_assoc a, Nat.xor_comm a, Nat.xor_assoc (red F (2 * o')), Nat.xor_self, Nat.xor_zero]
theorem mul_xor_left {F : Fld} (h : Six F) {a a' : Nat} (ha : a < F.size) (ha' : a' < F.size) (b : Nat) : mul F (a ^^^ a') b = mul F a b ^^^ mul F a' b := by
  have hs := h.bounds
  have := mgo_left h a a' b ha ha' F.size.log2 0 0 (by omega) (by omega)
  simpa [mul] using this
theorem mul_xor_right {F : Fld} (h : Six F) {a : Nat} (ha : a < F.size) (b b' : Nat) : mul F a (b ^^^ b') = mul F a b ^^^ mul F a b' := by
  have hs := h.bounds
  have := mgo_right h a b b' ha F.size.log2 0 0 (by omega) (by omega)
  simpa [mul] using this

/-- What holds of 0 and of each bit, and of sums, holds of all. -/
theorem xor_ind (P : Nat → Prop) (h0 : P 0) : ∀ m, (∀ i, i < m → P (2 ^ i)) → (∀ x y, x < 2 ^ m → y < 2 ^ m → P x → P y → P (x ^^^ y)) → ∀ x, x < 2 ^ m → P x
  | 0, _, _, x, hx => by have : x = 0 := by simpa using hx
                         rw [this]; exact h0
  | m + 1, hb, hs, x, hx => by
    have hle : 2 ^ m < 2 ^ (m + 1) := Nat.pow_lt_pow_right (by omega) (by omega)
    have ih := xor_ind P h0 m (fun i hi => hb i (by omega)) (fun x y h1 h2 => hs x y (by omega) (by omega))
    rcases Nat.lt_or_ge x (2 ^ m) with h | h
    · exact ih x h
    · have h1 : x ^^^ 2 ^ m < 2 ^ m := xor_low h hx (Nat.le_refl _) hle
      have h2 : x = (x ^^^ 2 ^ m) ^^^ 2 ^ m := by rw [Nat.xor_assoc, Nat.xor_self, Nat.xor_zero]
      rw [h2]
      exact hs _ _ (by omega) hle (ih _ h1) (hb m (by omega))

theorem mul_zero {F : Fld} (h : Six F) {a : Nat} (ha : a < F.size) : mul F a 0 = 0 := by
  have := mul_xor_right h ha 0 0
  rw [Nat.xor_self, Nat.xor_self] at this; exact this
theorem zero_mul {F : Fld} (h : Six F) (b : Nat) : mul F 0 b = 0 := by
  have hs := h.bounds
  have := mul_xor_left h (a := 0) (a' := 0) (by omega) (by omega) b
  rw [Nat.xor_self, Nat.xor_self] at this; exact this
theorem step_xor {F : Fld} (h : Six F) {x y : Nat} (hx : x < F.size) (hy : y < F.size) : step F (x ^^^ y) = step F x ^^^ step F y := by
  rw [step_red h hx, step_red h hy, step_red h (xor_lt_size h hx hy), two_xor, red_xor h (by omega) (by omega)]

/-- The products of bits, by the kernel. -/
def chkMul (F : Fld) (m : Nat) : Bool := (List.range m).all fun i => mul F (2 ^ i) 1 == 2 ^ i && (List.range m).all fun j => mul F (2 ^ i) (step F (2 ^ j)) == step F (mul F (2 ^ i) (2 ^ j))
set_option maxRecDepth 1000000 in
theorem chkMul_six : ∀ k, k < 6 → chkMul (six k) (six k).size.log2 = true ∧ ex (six k) ((six k).size - 1) = 1 := by
  intro k hk
  rcases k with _ | _ | _ | _ | _ | _ | k
  · exact ⟨by kernel_rfl, by kernel_rfl⟩
  · exact ⟨by kernel_rfl, by kernel_rfl⟩
  · exact ⟨by kernel_rfl, by kernel_rfl⟩
  · exact ⟨by kernel_rfl, by kernel_rfl⟩
  · exact ⟨by kernel_rfl, by kernel_rfl⟩
  · exact ⟨by kernel_rfl, by kernel_rfl⟩
  · omega
theorem Six.chk {F : Fld} (h : Six F) : chkMul F F.size.log2 = true ∧ ex F (F.size - 1) = 1 := by
  obtain ⟨k, hk, rfl⟩ := h
  exact chkMul_six k hk

theorem mul_one {F : Fld} (h : Six F) {a : Nat} (ha : a < F.size) : mul F a 1 = a := by
  obtain ⟨m, e, _⟩ := h.two
  have hc := h.chk.1
  rw [e, Nat.log2_two_pow] at hc
  simp only [chkMul, List.all_eq_true, List.mem_range, Bool.and_eq_true, beq_iff_eq] at hc
  rw [e] at ha
  refine xor_ind (fun a => mul F a 1 = a) (zero_mul h 1) m (fun i hi => (hc i hi).1) (fun x y hx hy h1 h2 => ?_) a ha
  rw [mul_xor_left h (by omega) (by omega), h1, h2]
theorem mul_step {F : Fld} (h : Six F) {a b : Nat} (ha : a < F.size) (hb : b < F.size) : mul F a (step F b) = step F (mul F a b) := by
  obtain ⟨m, e, _⟩ := h.two
  have hs := h.bounds
  have hc := h.chk.1
  rw [e, Nat.log2_two_pow] at hc
  simp only [chkMul, List.all_eq_true, List.mem_range, Bool.and_eq_true, beq_iff_eq] at hc
  have st0 : step F 0 = 0 := by unfold step; rw [if_neg (by omega)]
  have hpow : ∀ i, i < m → 2 ^ i < F.size := fun i hi => by rw [e]; exact Nat.pow_lt_pow_right (by omega) hi
  refine xor_ind (fun a => mul F a (step F b) = step F (mul F a b)) (by rw [zero_mul h, zero_mul h, st0]) m (fun i hi => ?_) (fun x y hx hy h1 h2 => ?_) a (by omega)
  · refine xor_ind (fun b => mul F (2 ^ i) (step F b) = step F (mul F (2 ^ i) b)) (by rw [st0, mul_zero h (hpow i hi), st0]) m (fun j hj => (hc i hi).2 j hj) (fun x y hx hy h1 h2 => ?_) b (by omega)
    rw [step_xor h (by omega) (by omega), mul_xor_right h (hpow i hi), mul_xor_right h (hpow i hi), step_xor h (mul_lt h (hpow i hi)) (mul_lt h (hpow i hi)), h1, h2]
  · rw [mul_xor_left h (by omega) (by omega), mul_xor_left h (by omega) (by omega), step_xor h (mul_lt h (by omega)) (mul_lt h (by omega)), h1, h2]
theorem mul_ex {F : Fld} (h : Six F) (i : Nat) : ∀ j, mul F (ex F i) (ex F j) = ex F (i + j)
  | 0 => mul_one h (ex_lt F (by have := h.bounds; omega) i)
  | j + 1 => by
    have hs := h.bounds
    show mul F (ex F i) (step F (ex F j)) = step F (ex F (i + j))
    rw [mul_step h (ex_lt F (by omega) i) (ex_lt F (by omega) j), mul_ex h i j]
theorem ex_period {F : Fld} (h : Six F) : ∀ i, ex F (i + (F.size - 1)) = ex F i
  | 0 => by rw [Nat.zero_add]; exact h.chk.2
  | i + 1 => by
    rw [show i + 1 + (F.size - 1) = (i + (F.size - 1)) + 1 by omega]
    show step F (ex F (i + (F.size - 1))) = step F (ex F i)
    rw [ex_period h i]
theorem ex_mod {F : Fld} (h : Six F) (i : Nat) : ex F (i % (F.size - 1)) = ex F i := by
  have hs := h.bounds
  have : ∀ q r, ex F (r + q * (F.size - 1)) = ex F r := by
    intro q
    induction q with
    | zero => intro r; simp
    | succ q ih => intro r; rw [Nat.succ_mul, ← Nat.add_assoc, ex_period h, ih]
  have h2 := this (i / (F.size - 1)) (i % (F.size - 1))
  rw [Nat.mul_comm, Nat.mod_add_div] at h2
  exact h2.symm
theorem ex_cases {F : Fld} (h : Six F) {a : Nat} (ha : a < F.size) : a = 0 ∨ ∃ i, i < F.size - 1 ∧ a = ex F i := by
  rcases Nat.eq_zero_or_pos a with h0 | h0
  · exact .inl h0
  · obtain ⟨h1, h2⟩ := ex_lg h h0 ha
    exact .inr ⟨_, h1, h2.symm⟩
theorem mul_comm {F : Fld} (h : Six F) {a b : Nat} (ha : a < F.size) (hb : b < F.size) : mul F a b = mul F b a := by
  rcases ex_cases h ha with rfl | ⟨i, _, rfl⟩
  · rw [zero_mul h, mul_zero h hb]
  rcases ex_cases h hb with rfl | ⟨j, _, rfl⟩
  · rw [zero_mul h, mul_zero h ha]
  rw [mul_ex h, mul_ex h, Nat.add_comm]
theorem mul_assoc {F : Fld} (h : Six F) {a b c : Nat} (ha : a < F.size) (hb : b < F.size) (hc : c < F.size) : mul F (mul F a b) c = mul F a (mul F b c) := by
  rcases ex_cases h ha with rfl | ⟨i, _, rfl⟩
  · rw [zero_mul h, zero_mul h, zero_mul h]
  rcases ex_cases h hb with rfl | ⟨j, _, rfl⟩
  · rw [mul_zero h ha, zero_mul h, mul_zero h ha]
  rcases ex_cases h hc with rfl | ⟨k, _, rfl⟩
  · rw [mul_zero h hb, mul_zero h ha, mul_zero h (mul_lt h ha)]
  rw [mul_ex h, mul_ex h, mul_ex h, mul_ex h, Nat.add_assoc]
theorem mul_tables {F : Fld} (h : Six F) {a b : Nat} (ha : a < F.size) (hb : b < F.size) (ha0 : a ≠ 0) (hb0 : b ≠ 0) : ex F ((lg F a + lg F b) % (F.size - 1)) = mul F a b := by
  obtain ⟨_, h1⟩ := ex_lg h (by omega) ha
  obtain ⟨_, h2⟩ := ex_lg h (by omega) hb
  rw [ex_mod h, ← mul_ex h, h1, h2]
/-- The inverse of an element. -/
def inv (F : Fld) (a : Nat) : Nat := ex F (F.size - lg F a - 1)
theorem inv_lt {F : Fld} (h : Six F) (a : Nat) : inv F a < F.size := ex_lt F (by have := h.bounds; omega) _
theorem mul_inv {F : Fld} (h : Six F) {a : Nat} (ha : a < F.size) (ha0 : a ≠ 0) : mul F a (inv F a) = 1 := by
  obtain ⟨h0, h1⟩ := ex_lg h (by omega) ha
  have : mul F a (inv F a) = mul F (ex F (lg F a)) (inv F a) := by rw [h1]
  rw [this]
  unfold inv
  rw [mul_ex h, show lg F a + (F.size - lg F a - 1) = F.size - 1 by omega]
  exact h.chk.2
theorem mul_ne_zero {F : Fld} (h : Six F) {a b : Nat} (ha : a < F.size) (hb : b < F.size) (ha0 : a ≠ 0) (hb0 : b ≠ 0) : mul F a b ≠ 0 := by
  have hs := h.bounds
  rw [← mul_tables h ha hb ha0 hb0]
  have := ex_pos h ((lg F a + lg F b) % (F.size - 1)) (Nat.mod_lt _ (by omega))
  omega
end Go.Qz.RS
