/-
  Data Matrix: what the look ahead may answer, by its counts (plain). No program in sight.
-/
import Derived.Test.YtcadknfcahmdcaaGreatDWJ
namespace Go.Qz.DF
open Go.Qz
open Go.Qz.DV hiding val run
set_option linter.unusedVariables false

/-- At most two own bytes are left: of the text, or ahead of a macro's trailer. -/
def Short (msg : List Nat) (p : Nat) : Prop := msg.length ≤ p + 2 ∨ (msg.length ≤ p + 4 ∧ 2 ≤ msg.length ∧ nth msg (msg.length - 2) = 30 ∧ nth msg (msg.length - 1) = 4)
/-- What the look ahead may answer. -/
structure Look (msg : List Nat) (p mode r : Nat) : Prop where
  r4 : r ≤ 4
  r3 : r = 3 → mode = 3 ∨ ∃ i, p ≤ i ∧ i < msg.length ∧ isS (nth msg i) = true
  r40 : r = 4 → mode = 0 → Runs8 (fun i => nth msg (p + i)) → ∀ i, i < 8 → isE (nth msg (p + i)) = true
  r44 : r = 4 → mode = 4 → p < msg.length → Runs8 (fun i => nth msg (p + i)) → isE (nth msg p) = true
  r0 : mode = 0 → Short msg p → r = 0
theorem Look.zero (msg : List Nat) (p mode : Nat) : Look msg p mode 0 := ⟨by omega, by omega, by omega, by omega, fun _ _ => rfl⟩
theorem Look.over {msg : List Nat} {p mode : Nat} (h : mode ≤ 4) (hp : msg.length ≤ p) : Look msg p mode mode := ⟨h, fun e => .inl e, fun e e' => by omega, fun _ _ h => by omega, fun e _ => e⟩
/-- The six ceilings. -/
structure Ints (mode : Nat) (msg : List Nat) (p n i0 i1 i2 i3 i4 i5 : Nat) : Prop where
  a : i0 ≤ n + (if mode = 0 then 0 else 1)
  ab : i0 < i5
  e : i4 = (eC (if mode = 0 then 4 else if mode = 4 then 0 else 8) (fun i => nth msg (p + i)) n + 3) / 4
  xc : mode ≠ 3 → (∀ i, i < n → isS (nth msg (p + i)) = false) → i1 ≤ i3
  lc : mode = 0 → th isC 4 (fun i => nth msg (p + i)) n ≤ 3 * i1
  lt : mode = 0 → th isT 4 (fun i => nth msg (p + i)) n ≤ 3 * i2
  lx : mode = 0 → th isX 10 (fun i => nth msg (p + i)) n ≤ 3 * i3
theorem ceil_low {t v c n : Nat} (h : t * 1152921504606846976 ≤ 3 * v + n * 4194304) (hn : n ≤ 1000) (hc : v ≤ c * 1152921504606846976) : t ≤ 3 * c := by
  rcases Nat.lt_or_ge (3 * c) t with hlt | hge
  · have h1 : (3 * c + 1) * 1152921504606846976 ≤ t * 1152921504606846976 := Nat.mul_le_mul_right _ hlt
    rw [Nat.add_mul, Nat.one_mul, Nat.mul_assoc] at h1
    obtain ⟨q, hq⟩ : ∃ q, q = t * 1152921504606846976 := ⟨_, rfl⟩
    obtain ⟨q', hq'⟩ : ∃ q', q' = c * 1152921504606846976 := ⟨_, rfl⟩
    rw [← hq] at h h1
    rw [← hq'] at h1 hc
    clear hq hq'
    omega
  · exact hge
theorem Cnt.ints {mode p n A C T X E B : Nat} {msg : List Nat} (hn : n ≤ 1000) (h : Cnt mode (fun i => nth msg (p + i)) n A C T X E B) : Ints mode msg p n (ceilC A) (ceilC C) (ceilC T) (ceilC X) (ceilC E) (ceilC B) := by
  obtain ⟨a1, a2⟩ := ceilC_spec h.a.1
  obtain ⟨c1, c2⟩ := ceilC_spec h.c.1
  obtain ⟨t1, t2⟩ := ceilC_spec h.t.1
  obtain ⟨x1, x2⟩ := ceilC_spec h.x.1
  obtain ⟨e1, e2⟩ := ceilC_spec h.e.1
  obtain ⟨b1, b2⟩ := ceilC_spec h.b.1
  rw [p60] at a1 a2 c1 c2 t1 t2 x1 x2 e1 e2 b1 b2
  have hA := h.vA.1
  have hB := h.vB
  have hE := h.vE
  refine ⟨?_, ?_, ?_, fun h3 hs => ?_, fun h0 => ceil_low (h.lC h0) hn c1, fun h0 => ceil_low (h.lT h0) hn t1, fun h0 => ceil_low (h.lX h0) hn x1⟩
  · generalize val A = v at *
    generalize ceilC A = c at *
    generalize (if mode = 0 then 0 else 1) = s at *
    clear h
    omega
  · have hs : (if mode = 0 then 5 else 9) = 4 * (if mode = 0 then 0 else 1) + 5 := by split <;> rfl
    rw [hs] at hB
    generalize (if mode = 0 then 0 else 1) = s at *
    generalize val A = v at *
    generalize ceilC A = c at *
    generalize val B = v' at *
    generalize ceilC B = c' at *
    clear h c1 c2 t1 t2 x1 x2 e1 e2 hE
    omega
  · generalize eC (if mode = 0 then 4 else if mode = 4 then 0 else 8) (fun i => nth msg (p + i)) n = q at *
    generalize val E = v at *
    generalize ceilC E = c at *
    clear h c1 c2 t1 t2 x1 x2 a1 a2 b1 b2 hA hB
    omega
  · rcases h.xc h3 hs with e | hx
    · rw [e]; exact Nat.le_refl _
    · generalize val X = v at *
      generalize ceilC X = c at *
      generalize val C = v' at *
      generalize ceilC C = c' at *
      clear h e1 e2 t1 t2 a1 a2 b1 b2 hA hB hE
      omega
section
variable {mode p n i0 i1 i2 i3 i4 i5 : Nat} {msg : List Nat}
/-- All others are greater than ASCII. -/
def Low (i0 i1 i2 i3 i4 : Nat) : Prop := i0 < i1 ∧ i0 < i2 ∧ i0 < i3 ∧ i0 < i4
theorem th_low {g : Nat → Bool} {k : Nat} {f : Nat → Nat} (hk : 4 ≤ k) : ∀ n, 3 + 2 * n ≤ th g k f n
  | 0 => Nat.le_refl _
  | n + 1 => by have := th_low (g := g) (f := f) hk n; unfold th; split <;> omega
theorem th_tail {g : Nat → Bool} {k : Nat} {f : Nat → Nat} (hk : 4 ≤ k) (n : Nat) (h1 : g (f n) = false) (h2 : g (f (n + 1)) = false) : 11 + 2 * n ≤ th g k f (n + 2) := by
  have := th_low (g := g) (f := f) hk n
  simp only [th, h1, h2, Bool.false_eq_true, if_false]
  omega
theorem eC_low {e0 : Nat} {f : Nat → Nat} : ∀ n, e0 + 3 * n ≤ eC e0 f n
  | 0 => Nat.le_refl _
  | n + 1 => by have := eC_low (e0 := e0) (f := f) n; unfold eC; split <;> omega
theorem eC_tail {e0 : Nat} {f : Nat → Nat} (n : Nat) (h1 : isE (f n) = false) (h2 : isE (f (n + 1)) = false) : e0 + 3 * n + 26 ≤ eC e0 f (n + 2) := by
  have := eC_low (e0 := e0) (f := f) n
  simp only [eC, h1, h2, Bool.false_eq_true, if_false]
  omega
theorem Ints.short (h : Ints mode msg p n i0 i1 i2 i3 i4 i5) (h0 : mode = 0) (hn : 0 < n) (hp : p + n = msg.length) (hs : Short msg p) : Low i0 i1 i2 i3 i4 := by
  have ha := h.a
  have he := h.e
  have l1 := h.lc h0
  have l2 := h.lt h0
  have l3 := h.lx h0
  rw [if_pos h0] at ha he
  generalize hf : (fun i => nth msg (p + i)) = f at *
  by_cases h2 : n ≤ 2
  · have t1 := th_low (g := isC) (k := 4) (f := f) (by omega) n
    have t2 := th_low (g := isT) (k := 4) (f := f) (by omega) n
    have t3 := th_low (g := isX) (k := 10) (f := f) (by omega) n
    have t4 := eC_low (e0 := 4) (f := f) n
    unfold Low
    refine ⟨by omega, by omega, by omega, by omega⟩
  · rcases hs with hs | ⟨s1, s2, s3, s4⟩
    · omega
    · obtain ⟨m, rfl⟩ : ∃ m, n = m + 2 := ⟨n - 2, by omega⟩
      have f1 : f m = 30 := by rw [← hf]; show nth msg (p + m) = 30; rw [show p + m = msg.length - 2 by omega]; exact s3
      have f2 : f (m + 1) = 4 := by rw [← hf]; show nth msg (p + (m + 1)) = 4; rw [show p + (m + 1) = msg.length - 1 by omega]; exact s4
      have t1 := th_tail (g := isC) (k := 4) (f := f) (by omega) m (by rw [f1]; rfl) (by rw [f2]; rfl)
      have t2 := th_tail (g := isT) (k := 4) (f := f) (by omega) m (by rw [f1]; rfl) (by rw [f2]; rfl)
      have t3 := th_tail (g := isX) (k := 10) (f := f) (by omega) m (by rw [f1]; rfl) (by rw [f2]; rfl)
      have t4 := eC_tail (e0 := 4) (f := f) m (by rw [f1]; rfl) (by rw [f2]; rfl)
      unfold Low
      refine ⟨by omega, by omega, by omega, by omega⟩
/-- An answer other than ASCII. -/
theorem Ints.look (h : Ints mode msg p n i0 i1 i2 i3 i4 i5) (hn : 0 < n) (hp : p + n ≤ msg.length) (hl : ¬ Low i0 i1 i2 i3 i4) (hK : p + n = msg.length ∨ 4 ≤ n) {r : Nat} (r4 : r ≤ 4)
    (r3 : r = 3 → (i3 < i1) ∨ ∃ i, p ≤ i ∧ i < msg.length ∧ isS (nth msg i) = true) (hE : r = 4 → i4 < i0) : Look msg p mode r := by
  refine ⟨r4, fun e => ?_, fun e h0 h8 => ?_, fun e h4 hlt h8 => ?_, fun h0 hs => ?_⟩
  · by_cases h3 : mode = 3
    · exact .inl h3
    · right
      rcases r3 e with hx | hx
      · rcases Classical.em (∃ i, i < n ∧ isS (nth msg (p + i)) = true) with ⟨i, h1, h2⟩ | hno
        · exact ⟨p + i, by omega, by omega, h2⟩
        · have := h.xc h3 fun i hi => by
            cases hs : isS (nth msg (p + i)) with
            | false => rfl
            | true => exact absurd ⟨i, hi, hs⟩ hno
          omega
      · exact hx
  · have ha := h.a
    have he := h.e
    have := hE e
    rw [if_pos h0] at ha he
    exact (eC_ascii h8 n (by omega)).2
  · have ha := h.a
    have he := h.e
    have := hE e
    have n0 : ¬ mode = 0 := by omega
    rw [if_neg n0] at ha he
    rw [if_pos h4] at he
    cases hf : isE (nth msg p) with
    | true => rfl
    | false =>
      have := eC_stay h8 n hn (by rw [Nat.add_zero]; exact hf)
      omega
  · have hK2 : p + n = msg.length := by
      rcases hK with hK | hK
      · exact hK
      · rcases hs with hs | hs <;> omega
    exact absurd (h.short h0 hn hK2 hs) hl
/-- How many of six are m. -/
def many (m i0 i1 i2 i3 i4 i5 : Nat) : Nat := (if i0 = m then 1 else 0) + (if i1 = m then 1 else 0) + (if i2 = m then 1 else 0) + (if i3 = m then 1 else 0) + (if i4 = m then 1 else 0) + (if i5 = m then 1 else 0)
/-- The least of six. -/
def Least (m i0 i1 i2 i3 i4 i5 : Nat) : Prop := (m ≤ i0 ∧ m ≤ i1 ∧ m ≤ i2 ∧ m ≤ i3 ∧ m ≤ i4 ∧ m ≤ i5) ∧ (m = i0 ∨ m = i1 ∨ m = i2 ∨ m = i3 ∨ m = i4 ∨ m = i5)
theorem one_many {b0 b1 : Nat} {P Q : Prop} [Decidable P] [Decidable Q] {a b c d : Nat} (h : (if P then 1 else 0) + (if Q then 1 else 0) + a + b + c + d = 1) (hP : P) : ¬ Q := fun hQ => by rw [if_pos hP, if_pos hQ] at h; omega
theorem one4 {m : Nat} (h : many m i0 i1 i2 i3 i4 i5 = 1) (e : i4 = m) (hl : Least m i0 i1 i2 i3 i4 i5) : i4 < i0 := by
  obtain ⟨⟨l0, l1, l2, l3, l4, l5⟩, _⟩ := hl
  have : i0 ≠ m := fun e0 => by unfold many at h; rw [if_pos e0, if_pos e] at h; omega
  omega
theorem one3 {m : Nat} (h : many m i0 i1 i2 i3 i4 i5 = 1) (e : i3 = m) (hl : Least m i0 i1 i2 i3 i4 i5) : i3 < i1 := by
  obtain ⟨⟨l0, l1, l2, l3, l4, l5⟩, _⟩ := hl
  have : i1 ≠ m := fun e0 => by unfold many at h; rw [if_pos e0, if_pos e] at h; omega
  omega
theorem Ints.no5 (h : Ints mode msg p n i0 i1 i2 i3 i4 i5) {m : Nat} (hl : Least m i0 i1 i2 i3 i4 i5) : i5 ≠ m := by
  obtain ⟨⟨l0, l1, l2, l3, l4, l5⟩, _⟩ := hl
  have := h.ab
  omega
/-- Where none of the four is the least, ASCII is less than each. -/
theorem Ints.none4 (h : Ints mode msg p n i0 i1 i2 i3 i4 i5) {m : Nat} (hl : Least m i0 i1 i2 i3 i4 i5) (h1 : i1 ≠ m) (h2 : i2 ≠ m) (h3 : i3 ≠ m) (h4 : i4 ≠ m) : Low i0 i1 i2 i3 i4 := by
  obtain ⟨⟨l0, l1, l2, l3, l4, l5⟩, l6⟩ := hl
  have := h.ab
  unfold Low
  omega
theorem Ints.notA (h : Ints mode msg p n i0 i1 i2 i3 i4 i5) {m : Nat} (hl : Least m i0 i1 i2 i3 i4 i5) (h0 : i0 ≠ m) : ¬ Low i0 i1 i2 i3 i4 := by
  obtain ⟨⟨l0, l1, l2, l3, l4, l5⟩, l6⟩ := hl
  have := h.ab
  unfold Low
  omega
end
end Go.Qz.DF
