/-
  A region of three chains of operations that may be drawn in any order among each other: one way for all orders. No condition beyond what each theorem states.
-/
import Derived.Test.YtpeipolknphjhaaBase
import Derived.Orders
import Derived.RegionTactic
import Derived.Maps.AppendAt
namespace Go.Qz.Par
open Go Go.Qz
set_option linter.unusedVariables false

section
variable {P : Program} {ops : Array Oper} {Q : Exit → Act → World → Prop} {md : Region.Mode}

/-- What a chain has: said of its blocks, the frame and the world. -/
def Local (R : List Nat → Act → World → Prop) (sl : List Nat) : Prop :=
  ∀ b a a' w w', R b a w → (∀ t, t ∈ sl → a'.tmps[t]? = a.tmps[t]?) → (∀ k, k ∈ b → w'.heap[k]? = w.heap[k]?) → R b a' w'

/-- An operation leads a chain from R to R', writes one slot of the chain's and turns no block but the chain's. -/
def StepOk (P : Program) (ops : Array Oper) (Q : Exit → Act → World → Prop) (I : World → Prop) (sl : List Nat) (op : Nat) (R R' : List Nat → Act → World → Prop) : Prop :=
  ∀ (K : Act → World → Prop) b a w, I w → R b a w → (∀ k, k ∈ b → k < w.heap.size) → (∀ t, t ∈ sl → t < a.tmps.size) →
    (∀ v d b' w', d ∈ sl → Mod (· ∈ b) w w' → (∀ k, k ∈ b' → k ∈ b ∨ w.heap.size ≤ k) → (∀ k, k ∈ b' → k < w'.heap.size) → R' b' (a.put (some d) v) w' → K (a.put (some d) v) w') → wpOp P ops Q op K a w

def Lf (L0 : Array Bool) (O1 O2 O3 : List Nat) (i j k : Nat) : Array Bool :=
  (O1.take i ++ (O2.take j ++ O3.take k)).foldl (fun l x => l.setIfInBounds x true) L0

/-- What is asked of the edges of the region: checked by reckoning. ok: which states are reached. -/
def parOk (md : Region.Mode) (ops : Array Oper) (L0 : Array Bool) (O1 O2 O3 : List Nat) (ok : Nat → Nat → Nat → Bool) : Bool :=
  (List.range (O1.length + 1)).all fun i => (List.range (O2.length + 1)).all fun j => (List.range (O3.length + 1)).all fun k =>
    !(ok i j k) ||
    ((i == O1.length || (Lf L0 O1 O2 O3 i j k).setIfInBounds (O1.getD i 0) true == Lf L0 O1 O2 O3 (i + 1) j k) &&
    ((j == O2.length || (Lf L0 O1 O2 O3 i j k).setIfInBounds (O2.getD j 0) true == Lf L0 O1 O2 O3 i (j + 1) k) &&
    ((k == O3.length || (Lf L0 O1 O2 O3 i j k).setIfInBounds (O3.getD k 0) true == Lf L0 O1 O2 O3 i j (k + 1)) &&
    (i + j + k == O1.length + O2.length + O3.length ||
      (!(Region.ready md ops (Lf L0 O1 O2 O3 i j k)).isEmpty && (Region.ready md ops (Lf L0 O1 O2 O3 i j k)).all fun x => (decide (i < O1.length) && (x == O1.getD i 0 && ok (i + 1) j k)) || ((decide (j < O2.length) && (x == O2.getD j 0 && ok i (j + 1) k)) || (decide (k < O3.length) && (x == O3.getD k 0 && ok i j (k + 1)))))))))

theorem parOk_at {L0 : Array Bool} {O1 O2 O3 : List Nat} {ok : Nat → Nat → Nat → Bool} (h : parOk md ops L0 O1 O2 O3 ok = true) {i j k : Nat} (hi : i ≤ O1.length) (hj : j ≤ O2.length) (hk : k ≤ O3.length) (hk0 : ok i j k = true) :
    (i < O1.length → (Lf L0 O1 O2 O3 i j k).setIfInBounds (O1.getD i 0) true = Lf L0 O1 O2 O3 (i + 1) j k) ∧
    (j < O2.length → (Lf L0 O1 O2 O3 i j k).setIfInBounds (O2.getD j 0) true = Lf L0 O1 O2 O3 i (j + 1) k) ∧
    (k < O3.length → (Lf L0 O1 O2 O3 i j k).setIfInBounds (O3.getD k 0) true = Lf L0 O1 O2 O3 i j (k + 1)) ∧
    (i + j + k < O1.length + O2.length + O3.length → Region.ready md ops (Lf L0 O1 O2 O3 i j k) ≠ [] ∧
      ∀ x, x ∈ Region.ready md ops (Lf L0 O1 O2 O3 i j k) → (i < O1.length ∧ x = O1.getD i 0 ∧ ok (i + 1) j k = true) ∨ (j < O2.length ∧ x = O2.getD j 0 ∧ ok i (j + 1) k = true) ∨ (k < O3.length ∧ x = O3.getD k 0 ∧ ok i j (k + 1) = true)) := by
  unfold parOk at h
  rw [List.all_eq_true] at h
  have h := h i (by simp; omega)
  rw [List.all_eq_true] at h
  have h := h j (by simp; omega)
  rw [List.all_eq_true] at h
  have h := h k (by simp; omega)
  rw [hk0, Bool.not_true, Bool.false_or] at h
  rw [Bool.and_eq_true, Bool.and_eq_true, Bool.and_eq_true, Bool.or_eq_true, Bool.or_eq_true, Bool.or_eq_true, Bool.or_eq_true] at h
  obtain ⟨h1, h2, h3, h4⟩ := h
  refine ⟨fun hh => ?_, fun hh => ?_, fun hh => ?_, fun hh => ?_⟩
  · rcases h1 with h1 | h1
    · rw [beq_iff_eq] at h1; omega
    · exact beq_iff_eq.1 h1
  · rcases h2 with h2 | h2
    · rw [beq_iff_eq] at h2; omega
    · exact beq_iff_eq.1 h2
  · rcases h3 with h3 | h3
    · rw [beq_iff_eq] at h3; omega
    · exact beq_iff_eq.1 h3
  · rcases h4 with h4 | h4
    · rw [beq_iff_eq] at h4; omega
    · rw [Bool.and_eq_true, List.all_eq_true] at h4
      obtain ⟨h5, h6⟩ := h4
      refine ⟨fun e => by rw [e] at h5; simp at h5, fun x hx => ?_⟩
      have := h6 x hx
      rw [Bool.or_eq_true, Bool.or_eq_true, Bool.and_eq_true, Bool.and_eq_true, Bool.and_eq_true, Bool.and_eq_true, Bool.and_eq_true, Bool.and_eq_true, decide_eq_true_iff, decide_eq_true_iff, decide_eq_true_iff, beq_iff_eq, beq_iff_eq, beq_iff_eq] at this
      exact this

/-- A frame that differs from a0 in the slots D alone. -/
structure Fr (D : List Nat) (a0 a : Act) : Prop where
  defers : a.defers = a0.defers
  size : a.tmps.size = a0.tmps.size
  slot : ∀ t, t ∉ D → a.tmps[t]? = a0.tmps[t]?
theorem Fr.put {D : List Nat} {a0 a : Act} (h : Fr D a0 a) {d : Nat} (hd : d ∈ D) (v : Value) : Fr D a0 (a.put (some d) v) := by
  refine ⟨h.defers, by simpa [Act.put] using h.size, fun t ht => ?_⟩
  rw [← h.slot t ht]
  show (a.tmps.setIfInBounds d v)[t]? = _
  rw [Array.getElem?_setIfInBounds_ne (by rintro rfl; exact ht hd)]
theorem put_other {a : Act} {d t : Nat} {v : Value} (h : t ≠ d) : (a.put (some d) v).tmps[t]? = a.tmps[t]? := by
  show (a.tmps.setIfInBounds d v)[t]? = _
  rw [Array.getElem?_setIfInBounds_ne (by omega)]
theorem put_self {a : Act} {d : Nat} {v : Value} (h : d < a.tmps.size) : (a.put (some d) v).tmps[d]? = some v := by
  show (a.tmps.setIfInBounds d v)[d]? = _
  rw [Array.getElem?_setIfInBounds_self_of_lt h]

/-- The frame, written out. -/
theorem Fr.puts {D : List Nat} {a0 a : Act} (h : Fr D a0 a) : a = D.foldl (fun x t => x.put (some t) (a.tmps.getD t undef)) a0 := by
  have key : ∀ (E : List Nat) (x : Act), (∀ t, t ∈ E → True) → x.defers = a.defers → x.tmps.size = a.tmps.size → (∀ t, t ∉ E → x.tmps[t]? = a.tmps[t]?) → E.foldl (fun x t => x.put (some t) (a.tmps.getD t undef)) x = a := by
    intro E
    induction E with
    | nil =>
      intro x _ h1 h2 h3
      obtain ⟨xt, xd⟩ := x
      obtain ⟨at_, ad⟩ := a
      simp only [List.foldl_nil]
      have : xt = at_ := Array.ext h2 fun i hi1 hi2 => by
        have := h3 i (by simp)
        simp only [Array.getElem?_eq_getElem hi1, Array.getElem?_eq_getElem hi2] at this
        exact Option.some.inj this
      subst this
      simp only at h1
      subst h1
      rfl
    | cons d E ih =>
      intro x _ h1 h2 h3
      simp only [List.foldl_cons]
      refine ih _ (fun _ _ => trivial) h1 (by simpa [Act.put] using h2) fun t ht => ?_
      by_cases hd : t = d
      · subst hd
        by_cases hs : t < a.tmps.size
        · rw [put_self (by omega)]
          simp [Array.getD, hs]
        · rw [Array.getElem?_eq_none (by simp [Act.put]; omega), Array.getElem?_eq_none (by omega)]
      · rw [put_other hd]
        exact h3 t (by simp [hd, ht])
  exact (key D a0 (fun _ _ => trivial) h.defers.symm h.size.symm (fun t ht => (h.slot t ht).symm)).symm

/-- Three chains, in whatever order they are drawn. -/
theorem par {L0 : Array Bool} {O1 O2 O3 : List Nat} {ok : Nat → Nat → Nat → Bool} (hok : parOk md ops L0 O1 O2 O3 ok = true) {rest : Nat} {a0 : Act} {w0 : World} {I : World → Prop} {s1 s2 s3 : List Nat} {R1 R2 R3 : Nat → List Nat → Act → World → Prop}
    (C : List Nat)
    (hI : ∀ (b : List Nat) w w', I w → (∀ k, k ∈ b → k ∈ C ∨ w0.heap.size ≤ k) → Mod (· ∈ b) w w' → I w')
    (hl1 : ∀ i, Local (R1 i) s1) (hl2 : ∀ i, Local (R2 i) s2) (hl3 : ∀ i, Local (R3 i) s3)
    (hd12 : ∀ t, t ∈ s1 → t ∉ s2) (hd13 : ∀ t, t ∈ s1 → t ∉ s3) (hd23 : ∀ t, t ∈ s2 → t ∉ s3)
    (hin : ∀ t, t ∈ s1 ++ (s2 ++ s3) → t < a0.tmps.size)
    (hs1 : ∀ i, i < O1.length → StepOk P ops Q I s1 (O1.getD i 0) (R1 i) (R1 (i + 1)))
    (hs2 : ∀ i, i < O2.length → StepOk P ops Q I s2 (O2.getD i 0) (R2 i) (R2 (i + 1)))
    (hs3 : ∀ i, i < O3.length → StepOk P ops Q I s3 (O3.getD i 0) (R3 i) (R3 (i + 1)))
    (hfin : ∀ b1 b2 b3 a w, Fr (s1 ++ (s2 ++ s3)) a0 a → I w → w0.heap.size ≤ w.heap.size → R1 O1.length b1 a w → R2 O2.length b2 a w → R3 O3.length b3 a w → (∀ k, k ∈ b1 → k ∉ b2 ∧ k ∉ b3) → (∀ k, k ∈ b2 → k ∉ b3) → (∀ k, k ∈ b1 ++ (b2 ++ b3) → (k ∈ C ∨ w0.heap.size ≤ k) ∧ k < w.heap.size) → wpAny P md ops Q rest (Lf L0 O1 O2 O3 O1.length O2.length O3.length) a w) :
    ∀ N i j k b1 b2 b3 a w, i ≤ O1.length → j ≤ O2.length → k ≤ O3.length → ok i j k = true → N + (i + j + k) = O1.length + O2.length + O3.length →
      Fr (s1 ++ (s2 ++ s3)) a0 a → I w → w0.heap.size ≤ w.heap.size → R1 i b1 a w → R2 j b2 a w → R3 k b3 a w → (∀ k, k ∈ b1 → k ∉ b2 ∧ k ∉ b3) → (∀ k, k ∈ b2 → k ∉ b3) → (∀ k, k ∈ b1 ++ (b2 ++ b3) → (k ∈ C ∨ w0.heap.size ≤ k) ∧ k < w.heap.size) →
      wpAny P md ops Q (rest + N) (Lf L0 O1 O2 O3 i j k) a w := by
  intro N
  induction N with
  | zero =>
    intro i j k b1 b2 b3 a w hi hj hk hk0 hN hF hIw hsz h1 h2 h3 d1 d2 hb
    obtain rfl : i = O1.length := by omega
    obtain rfl : j = O2.length := by omega
    obtain rfl : k = O3.length := by omega
    exact hfin b1 b2 b3 a w hF hIw hsz h1 h2 h3 d1 d2 hb
  | succ N ih =>
    intro i j k b1 b2 b3 a w hi hj hk hk0 hN hF hIw hsz h1 h2 h3 d1 d2 hb
    obtain ⟨e1, e2, e3, e4⟩ := parOk_at hok hi hj hk hk0
    obtain ⟨hne, hall⟩ := e4 (by omega)
    have inS : ∀ t, t ∈ s1 ++ (s2 ++ s3) → t < a.tmps.size := fun t ht => by rw [hF.size]; exact hin t ht
    refine ⟨fun h => absurd h hne, fun x hx => ?_⟩
    rcases hall x hx with ⟨hlt, rfl, hok'⟩ | ⟨hlt, rfl, hok'⟩ | ⟨hlt, rfl, hok'⟩
    · refine hs1 i hlt _ b1 a w hIw h1 (fun k hk => (hb k (by simp [hk])).2) (fun t ht => inS t (by simp [ht])) fun v d b' w' hd hm hb1 hb2 hR => ?_
      rw [e1 hlt]
      have hsz' : w.heap.size ≤ w'.heap.size := hm.size
      have apart2 : ∀ k, k ∈ b2 → k ∉ b1 := fun k hk h => (d1 k h).1 hk
      have apart3 : ∀ k, k ∈ b3 → k ∉ b1 := fun k hk h => (d1 k h).2 hk
      refine ih (i + 1) j k b' b2 b3 _ w' (by omega) hj hk hok' (by omega) (hF.put (by simp [hd]) v) (hI b1 w w' hIw (fun k hk => (hb k (by simp [hk])).1) hm) (by omega) hR
        (hl2 j b2 a _ w w' h2 (fun t ht => put_other (by rintro rfl; exact hd12 _ hd ht)) fun k hk => hm.block k (hb k (by simp [hk])).2 (apart2 k hk))
        (hl3 k b3 a _ w w' h3 (fun t ht => put_other (by rintro rfl; exact hd13 _ hd ht)) fun k hk => hm.block k (hb k (by simp [hk])).2 (apart3 k hk)) ?_ d2 ?_
      · intro k hk
        rcases hb1 k hk with h | h
        · exact d1 k h
        · exact ⟨fun h' => by have := (hb k (by simp [h'])).2; omega, fun h' => by have := (hb k (by simp [h'])).2; omega⟩
      · intro k hk
        rcases List.mem_append.1 hk with hk | hk
        · refine ⟨?_, hb2 k hk⟩
          rcases hb1 k hk with h | h
          · exact (hb k (by simp [h])).1
          · exact .inr (by omega)
        · have := hb k (List.mem_append.2 (.inr hk)); exact ⟨this.1, by omega⟩
    · refine hs2 j hlt _ b2 a w hIw h2 (fun k hk => (hb k (by simp [hk])).2) (fun t ht => inS t (by simp [ht])) fun v d b' w' hd hm hb1 hb2 hR => ?_
      rw [e2 hlt]
      have hsz' : w.heap.size ≤ w'.heap.size := hm.size
      have apart2 : ∀ k, k ∈ b1 → k ∉ b2 := fun k hk h => (d1 k hk).1 h
      have apart3 : ∀ k, k ∈ b3 → k ∉ b2 := fun k hk h => d2 k h hk
      refine ih i (j + 1) k b1 b' b3 _ w' hi (by omega) hk hok' (by omega) (hF.put (by simp [hd]) v) (hI b2 w w' hIw (fun k hk => (hb k (by simp [hk])).1) hm) (by omega)
        (hl1 i b1 a _ w w' h1 (fun t ht => put_other (by rintro rfl; exact hd12 _ ht hd)) fun k hk => hm.block k (hb k (by simp [hk])).2 (apart2 k hk)) hR
        (hl3 k b3 a _ w w' h3 (fun t ht => put_other (by rintro rfl; exact hd23 _ hd ht)) fun k hk => hm.block k (hb k (by simp [hk])).2 (apart3 k hk)) ?_ ?_ ?_
      · intro k hk
        refine ⟨fun h' => ?_, (d1 k hk).2⟩
        rcases hb1 k h' with h | h
        · exact (d1 k hk).1 h
        · have := (hb k (by simp [hk])).2; omega
      · intro k hk
        rcases hb1 k hk with h | h
        · exact d2 k h
        · exact fun h' => by have := (hb k (by simp [h'])).2; omega
      · intro k hk
        rcases List.mem_append.1 hk with hk | hk
        · have := hb k (List.mem_append.2 (.inl hk)); exact ⟨this.1, by omega⟩
        · rcases List.mem_append.1 hk with hk | hk
          · refine ⟨?_, hb2 k hk⟩
            rcases hb1 k hk with h | h
            · exact (hb k (by simp [h])).1
            · exact .inr (by omega)
          · have := hb k (by simp [hk]); exact ⟨this.1, by omega⟩
    · refine hs3 k hlt _ b3 a w hIw h3 (fun k hk => (hb k (by simp [hk])).2) (fun t ht => inS t (by simp [ht])) fun v d b' w' hd hm hb1 hb2 hR => ?_
      rw [e3 hlt]
      have hsz' : w.heap.size ≤ w'.heap.size := hm.size
      have apart2 : ∀ k, k ∈ b1 → k ∉ b3 := fun k hk h => (d1 k hk).2 h
      have apart3 : ∀ k, k ∈ b2 → k ∉ b3 := fun k hk h => d2 k hk h
      refine ih i j (k + 1) b1 b2 b' _ w' hi hj (by omega) hok' (by omega) (hF.put (by simp [hd]) v) (hI b3 w w' hIw (fun k hk => (hb k (by simp [hk])).1) hm) (by omega)
        (hl1 i b1 a _ w w' h1 (fun t ht => put_other (by rintro rfl; exact hd13 _ ht hd)) fun k hk => hm.block k (hb k (by simp [hk])).2 (apart2 k hk))
        (hl2 j b2 a _ w w' h2 (fun t ht => put_other (by rintro rfl; exact hd23 _ ht hd)) fun k hk => hm.block k (hb k (by simp [hk])).2 (apart3 k hk)) hR ?_ ?_ ?_
      · intro k hk
        refine ⟨(d1 k hk).1, fun h' => ?_⟩
        rcases hb1 k h' with h | h
        · exact (d1 k hk).2 h
        · have := (hb k (by simp [hk])).2; omega
      · intro k hk h'
        rcases hb1 k h' with h | h
        · exact d2 k hk h
        · have := (hb k (by simp [hk])).2; omega
      · intro k hk
        rcases List.mem_append.1 hk with hk | hk
        · have := hb k (List.mem_append.2 (.inl hk)); exact ⟨this.1, by omega⟩
        · rcases List.mem_append.1 hk with hk | hk
          · have := hb k (by simp [hk]); exact ⟨this.1, by omega⟩
          · refine ⟨?_, hb2 k hk⟩
            rcases hb1 k hk with h | h
            · exact (hb k (by simp [h])).1
            · exact .inr (by omega)

/-- The same, from the start. -/
theorem par_start {L0 : Array Bool} (O1 O2 O3 : List Nat) (ok : Nat → Nat → Nat → Bool) (hok0 : ok 0 0 0 = true) (hok : parOk md ops L0 O1 O2 O3 ok = true) {F : Nat} (rest : Nat) (hF : F = rest + (O1.length + O2.length + O3.length)) {a0 : Act} {w0 : World} (s1 s2 s3 : List Nat) (R1 R2 R3 : Nat → List Nat → Act → World → Prop)
    (b1 b2 b3 : List Nat)
    (hl1 : ∀ i, Local (R1 i) s1) (hl2 : ∀ i, Local (R2 i) s2) (hl3 : ∀ i, Local (R3 i) s3)
    (hd12 : ∀ t, t ∈ s1 → t ∉ s2) (hd13 : ∀ t, t ∈ s1 → t ∉ s3) (hd23 : ∀ t, t ∈ s2 → t ∉ s3)
    (hin : ∀ t, t ∈ s1 ++ (s2 ++ s3) → t < a0.tmps.size)
    (hs1 : ∀ i, i < O1.length → StepOk P ops Q (Mod (· ∈ b1 ++ (b2 ++ b3)) w0) s1 (O1.getD i 0) (R1 i) (R1 (i + 1)))
    (hs2 : ∀ i, i < O2.length → StepOk P ops Q (Mod (· ∈ b1 ++ (b2 ++ b3)) w0) s2 (O2.getD i 0) (R2 i) (R2 (i + 1)))
    (hs3 : ∀ i, i < O3.length → StepOk P ops Q (Mod (· ∈ b1 ++ (b2 ++ b3)) w0) s3 (O3.getD i 0) (R3 i) (R3 (i + 1)))
    (h1 : R1 0 b1 a0 w0) (h2 : R2 0 b2 a0 w0) (h3 : R3 0 b3 a0 w0)
    (d1 : ∀ k, k ∈ b1 → k ∉ b2 ∧ k ∉ b3) (d2 : ∀ k, k ∈ b2 → k ∉ b3) (hlt : ∀ k, k ∈ b1 ++ (b2 ++ b3) → k < w0.heap.size)
    (hfin : ∀ c1 c2 c3 a w, a = (s1 ++ (s2 ++ s3)).foldl (fun x t => x.put (some t) (a.tmps.getD t undef)) a0 → Mod (· ∈ b1 ++ (b2 ++ b3)) w0 w → R1 O1.length c1 a w → R2 O2.length c2 a w → R3 O3.length c3 a w → (∀ k, k ∈ c1 → k ∉ c2 ∧ k ∉ c3) → (∀ k, k ∈ c2 → k ∉ c3) → (∀ k, k ∈ c1 ++ (c2 ++ c3) → (k ∈ b1 ++ (b2 ++ b3) ∨ w0.heap.size ≤ k) ∧ k < w.heap.size) → wpAny P md ops Q rest (Lf L0 O1 O2 O3 O1.length O2.length O3.length) a w) :
    wpAny P md ops Q F L0 a0 w0 := by
  subst hF
  exact par hok (w0 := w0) (I := Mod (· ∈ b1 ++ (b2 ++ b3)) w0) (b1 ++ (b2 ++ b3))
    (fun b w w' hI hb hm => hI.then hm fun i hi hh => by
      rcases hb i hh with h | h
      · exact h
      · omega)
    hl1 hl2 hl3 hd12 hd13 hd23 hin hs1 hs2 hs3
    (fun c1 c2 c3 a w hF hI hsz r1 r2 r3 e1 e2 hb => hfin c1 c2 c3 a w hF.puts hI r1 r2 r3 e1 e2 hb)
    _ 0 0 0 b1 b2 b3 a0 w0 (Nat.zero_le _) (Nat.zero_le _) (Nat.zero_le _) hok0 (by omega) ⟨rfl, rfl, fun _ _ => rfl⟩ (Mod.refl _) (Nat.le_refl _) h1 h2 h3 d1 d2 (fun k hk => ⟨.inl hk, hlt k hk⟩)

/-! ### The steps of a chain that appends one element -/
theorem own_local {w w' : World} {base : Nat} {e : TypeId} {size n : Nat} {v : Value} {xs : List Value} (h : w.ownsRow base e size v n xs) (hk : ∀ k, k ∈ v.ownBlock.toList → w'.heap[k]? = w.heap[k]?) : w'.ownsRow base e size v n xs := by
  refine ⟨h.1, h.2.imp id ?_⟩
  rintro ⟨g, cap, cur, rfl, h1, h2, h3⟩
  exact ⟨g, cap, cur, rfl, h1, (hk g (by simp [Value.ownBlock])).trans h2, h3⟩

/-- 0: slice and element lie in their slots; 1: the element's block is made; 2: it is appended. -/
def App (base : Nat) (e : TypeId) (tv tu tb ta : Nat) (v u : Value) (n : Nat) (xs : List Value) : Nat → List Nat → Act → World → Prop
  | 0 => fun b a w => a.tmps[tv]? = some v ∧ a.tmps[tu]? = some u ∧ w.ownsRow base e 1 v n xs ∧ b = v.ownBlock.toList
  | 1 => fun b a w => a.tmps[tv]? = some v ∧ ∃ g, a.tmps[tb]? = some (.slice (some ⟨g, 0, none⟩) 1 1) ∧ w.ownsRow base e 1 v n xs ∧ Arr w e g [u] ∧ some g ≠ v.ownBlock ∧ b = g :: v.ownBlock.toList
  | _ => fun b a w => ∃ v', a.tmps[ta]? = some v' ∧ w.ownsRow base e 1 v' (n + 1) (xs ++ [u]) ∧ b = v'.ownBlock.toList
theorem App.local_ {base : Nat} {e : TypeId} {tv tu tb ta : Nat} {v u : Value} {n : Nat} {xs : List Value} (sl : List Nat) (h1 : tv ∈ sl) (h2 : tu ∈ sl) (h3 : tb ∈ sl) (h4 : ta ∈ sl) : ∀ i, Local (App base e tv tu tb ta v u n xs i) sl
  | 0 => by
    rintro b a a' w w' ⟨r1, r2, r3, rfl⟩ ht hk
    exact ⟨(ht _ h1).trans r1, (ht _ h2).trans r2, own_local r3 hk, rfl⟩
  | 1 => by
    rintro b a a' w w' ⟨r1, g, r2, r3, r4, r5, rfl⟩ ht hk
    exact ⟨(ht _ h1).trans r1, g, (ht _ h3).trans r2, own_local r3 fun k hk' => hk k (by simp [hk']), r4.keep (hk g (by simp)), r5, rfl⟩
  | _ + 2 => by
    rintro b a a' w w' ⟨v', r1, r2, rfl⟩ ht hk
    exact ⟨v', (ht _ h4).trans r1, own_local r2 hk, rfl⟩
theorem own_lt {w : World} {base : Nat} {e : TypeId} {size n : Nat} {v : Value} {xs : List Value} (h : w.ownsRow base e size v n xs) {k : Nat} (hk : k ∈ v.ownBlock.toList) : k < w.heap.size := by
  have : v.ownBlock = some k := by simpa using hk
  exact (h.lt k this).2
theorem eval_of {a : Act} {t : Nat} {v : Value} (h : a.tmps[t]? = some v) : a.eval (.tmp t) = v := by
  show a.tmps.getD t undef = v
  rw [Array.getD_eq_getD_getElem?, h]; rfl
theorem wp_op {op : Nat} {o : Oper} {K : Act → World → Prop} {a : Act} {w : World} (ho : ops[op]? = some o) (hg : o.guard = none) (h : o.wp P a w K Q) : wpOp P ops Q op K a w := by
  unfold wpOp
  simp only [ho]
  rw [if_pos (by simp [Region.wanted, hg])]
  exact .inl h

theorem App.build {I : World → Prop} {sl : List Nat} {base : Nat} {e : TypeId} {tv tu tb ta : Nat} {v u : Value} {n : Nat} {xs : List Value} (h1 : tv ∈ sl) (h3 : tb ∈ sl) (hne : tv ≠ tb)
    (op : Nat) (o : Oper) (t : TypeId) (ho : ops[op]? = some o) (hg : o.guard = none) (hop : o.op = .buildSlice t 1 #[(0, .tmp tu)]) (hdst : o.dst = some tb)
    (hrun : ∀ W : World, (Instr.buildSlice t 1 #[(0, u)]).run P W = .ok (.slice (some ⟨W.heap.size, 0, none⟩) 1 1) (W.alloc (.cells #[u] e))) :
    StepOk P ops Q I sl op (App base e tv tu tb ta v u n xs 0) (App base e tv tu tb ta v u n xs 1) := by
  rintro K b a w hI ⟨r1, r2, r3, rfl⟩ hb hin hK
  refine wp_op ho hg ?_
  unfold Oper.wp execOp
  simp only [hop, List.map_toArray, List.map_cons, List.map_nil, eval_of r2, Sem.run_bind, hrun, Result.andThen_ok, Sem.run_pure, Oper.upon, hdst]
  refine hK _ tb (w.heap.size :: v.ownBlock.toList) _ h3 ((Mod.refl _).alloc _) ?_ ?_ ⟨(put_other hne).trans r1, w.heap.size, put_self (hin _ h3), r3.alloc _, Arr.new w e [u], ?_, rfl⟩
  · intro k hk
    rcases List.mem_cons.1 hk with rfl | hk
    · exact .inr (Nat.le_refl _)
    · exact .inl hk
  · intro k hk
    rcases List.mem_cons.1 hk with rfl | hk
    · simp
    · have := own_lt r3 hk; simp; omega
  · intro h
    have := own_lt (k := w.heap.size) r3 (by rw [← h]; simp)
    omega

theorem App.push {I : World → Prop} {sl : List Nat} {base : Nat} {e : TypeId} {tv tu tb ta : Nat} {v u : Value} {n : Nat} {xs : List Value} (h4 : ta ∈ sl)
    (op : Nat) (o : Oper) (t : TypeId) (ho : ops[op]? = some o) (hg : o.guard = none) (hop : o.op = .call { callee := .builtin .append, args := #[.tmp tv, .tmp tb], argTypes := #[t, t] }) (hdst : o.dst = some ta)
    (z : Value) (bytes : Nat) (ht : P.underlying t = some (.slice e)) (hi : (P.info? e).map (fun i => (i.zero, i.size, i.bytes)) = some (some z, 1, bytes)) (hzs : z.cells.size = 1) (hu : u.oneCell' = true) (hby : bytes ≤ 64)
    (hn : n < 1099511627776) (hbase : ∀ w, I w → base ≤ w.heap.size) :
    StepOk P ops Q I sl op (App base e tv tu tb ta v u n xs 1) (App base e tv tu tb ta v u n xs 2) := by
  rintro K b a w hI ⟨r1, g, r2, r3, r4, r5, rfl⟩ hb hin hK
  refine wp_op ho hg ?_
  obtain ⟨i0, hi, hz0, hz1, hz2⟩ := info_parts hi
  obtain ⟨v', w', hr, hown, hgrow, _, hblk⟩ := run_append_own_at (P := P) (w := w) base t o.type e i0 z 1 bytes ht hi hz0 hz1 hz2 hzs (by decide) v n xs r3 ⟨g, 0, none⟩ 1 1 [u] rfl
    (fun j u' hu' => by
      have hj : j = 0 := by
        rcases Nat.eq_zero_or_pos j with h | h
        · exact h
        · rw [List.getElem?_eq_none (by simp; omega)] at hu'; cases hu'
      subst hj
      rw [Addr.add_lit, r4.cell?]
      simpa using hu') (fun u' hu' => by simp at hu'; subst hu'; exact hu) (by unfold maxLen; omega)
    (by have : (n + 1) * bytes ≤ 1099511627776 * 64 := Nat.mul_le_mul (by omega) hby
        omega) (hbase w hI)
  unfold Oper.wp execOp
  simp only [hop, resolve, invoke, builtin, Sem.run_bind, Sem.run_pure, Result.andThen_ok, List.map_toArray, List.map_cons, List.map_nil, eval_of r1, eval_of r2, hr, Oper.upon, hdst]
  have hlt : ∀ k, k ∈ v'.ownBlock.toList → k ∈ g :: v.ownBlock.toList ∨ w.heap.size ≤ k := by
    intro k hk
    have hk : v'.ownBlock = some k := by simpa using hk
    rcases hblk with h | h
    · left; rw [h] at hk; simp [hk]
    · right; rw [h] at hk; injection hk with hk; omega
  refine hK v' ta v'.ownBlock.toList w' h4 ⟨hgrow.os, hgrow.tape, hgrow.output, hgrow.size, fun k hk hnk => hgrow.block k hk fun h => hnk ?_⟩ hlt ?_ ⟨v', put_self (hin _ h4), hown, rfl⟩
  · show k ∈ g :: v.ownBlock.toList
    rw [← h]; simp
  · intro k hk
    exact own_lt hown hk
theorem call_enter {f : FuncId} {fn : Func} {c : Code} (hf : P.funcs[f]? = some fn) (hname : (fn.name == "runtime.NumGoroutine") = false) (hb : fn.body = some c) (args : Array Value) (w : World) :
    (callFunc f args).run P w = .ok (.enter f args) w := by
  have h1 : fn.name ≠ "runtime.NumGoroutine" := by simpa using hname
  simp [callFunc, hf, h1, hb]
/-- The element is what a call gives that only reads. -/
def AppC (base : Nat) (e : TypeId) (tv tp tu tb ta : Nat) (v pv u : Value) (n : Nat) (xs : List Value) : Nat → List Nat → Act → World → Prop
  | 0 => fun b a w => a.tmps[tv]? = some v ∧ a.tmps[tp]? = some pv ∧ w.ownsRow base e 1 v n xs ∧ b = v.ownBlock.toList
  | i + 1 => App base e tv tu tb ta v u n xs i
theorem AppC.local_ {base : Nat} {e : TypeId} {tv tp tu tb ta : Nat} {v pv u : Value} {n : Nat} {xs : List Value} (sl : List Nat) (h1 : tv ∈ sl) (h5 : tp ∈ sl) (h2 : tu ∈ sl) (h3 : tb ∈ sl) (h4 : ta ∈ sl) : ∀ i, Local (AppC base e tv tp tu tb ta v pv u n xs i) sl
  | 0 => by
    rintro b a a' w w' ⟨r1, r2, r3, rfl⟩ ht hk
    exact ⟨(ht _ h1).trans r1, (ht _ h5).trans r2, own_local r3 hk, rfl⟩
  | i + 1 => App.local_ sl h1 h2 h3 h4 i
theorem AppC.call {I : World → Prop} {sl : List Nat} {base : Nat} {e : TypeId} {tv tp tu tb ta : Nat} {v pv u : Value} {n : Nat} {xs : List Value} (h2 : tu ∈ sl) (hne : tv ≠ tu)
    (op : Nat) (o : Oper) (F : FuncId) (t : TypeId) (ho : ops[op]? = some o) (hg : o.guard = none) (hop : o.op = .call { callee := .value (.func F), args := #[.tmp tp], argTypes := #[t] }) (hdst : o.dst = some tu)
    (fn : Func) (c : Code) (hf : P.funcs[F]? = some fn) (hname : (fn.name == "runtime.NumGoroutine") = false) (hbd : fn.body = some c)
    (hcall : ∀ w, I w → Calls P F #[pv] w fun e w' => e = .returned u ∧ ∃ k, w' = w.drewN k) :
    StepOk P ops Q I sl op (AppC base e tv tp tu tb ta v pv u n xs 0) (AppC base e tv tp tu tb ta v pv u n xs 1) := by
  rintro K b a w hI ⟨r1, r2, r3, rfl⟩ hb hin hK
  refine wp_op ho hg ?_
  unfold Oper.wp execOp
  have e1 := eval_of r2
  simp only [hop, resolve, show a.eval (.func F) = .func (.func F) #[] #[] from rfl, e1, invoke, Sem.run_bind, Sem.run_pure, Result.andThen_ok, List.map_toArray, List.map_cons, List.map_nil, Oper.upon, hdst, Deferred.ofValue, Array.empty_append, call_enter hf hname hbd]
  refine (hcall w hI).mono ?_
  rintro e' w' ⟨rfl, k, rfl⟩
  exact hK u tu v.ownBlock.toList _ h2 ((Mod.refl _).drewN k) (fun k hk => .inl hk) (fun k hk => own_lt r3 hk) ⟨(put_other hne).trans r1, put_self (hin _ h2), own_local r3 fun _ _ => rfl, rfl⟩
end
end Go.Qz.Par
