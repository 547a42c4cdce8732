/-
  Steps that a call appends, one behind the other, in memory; steps that came in. No condition beyond the bounds that each theorem states.
-/
import Derived.Test.YtcfcbcjaiplllaaBHA
import Derived.Test.YtcfcbcjaiplllaaBGQ
namespace Go.Proofs.Ytcfcbcjaiplllaa
open Go.RowKit Go.Qz
set_option linter.unusedVariables false

/-- Whatever steps behind these are good for W by H, all are good for W0 by H0. -/
def Made (l : List Stp) (W0 H0 W H : Nat) : Prop := ∀ rest, Goods rest W H → Goods (l ++ rest) W0 H0
theorem Made.nil (W H : Nat) : Made [] W H W H := fun _ h => h
theorem Made.add {l : List Stp} {W0 H0 W H : Nat} (h : Made l W0 H0 W H) {s : Stp} (hs : s.good W H) : Made (l ++ [s]) W0 H0 (if s.op = 8 then H else W) (if s.op = 8 then W else H) := fun rest hr => by
  rw [List.append_assoc]
  exact h _ ⟨hs, hr⟩
theorem Made.goods {l : List Stp} {W0 H0 W H : Nat} (h : Made l W0 H0 W H) : Goods l W0 H0 := by
  have := h [] trivial
  rwa [List.append_nil] at this

theorem flat_lenG {α : Type} (f : Nat → List α) (s : Nat) (hf : ∀ j, (f j).length = s) : ∀ m, ((List.range m).flatMap f).length = m * s
  | 0 => by simp
  | m + 1 => by rw [List.range_succ, List.flatMap_append, List.length_append, flat_lenG f s hf m, Nat.succ_mul]; simp [hf]
theorem flat_atG {α : Type} (f : Nat → List α) (s : Nat) (hf : ∀ j, (f j).length = s) : ∀ m j i, j < m → i < s → ((List.range m).flatMap f)[j * s + i]? = (f j)[i]?
  | 0, j, i, hj, _ => absurd hj (by omega)
  | m + 1, j, i, hj, hi => by
    rw [List.range_succ, List.flatMap_append]
    by_cases h : j < m
    · have hl : j * s + i < ((List.range m).flatMap f).length := by
        rw [flat_lenG f s hf]
        have : (j + 1) * s ≤ m * s := Nat.mul_le_mul_right s h
        rw [Nat.succ_mul] at this; omega
      rw [List.getElem?_append_left hl]; exact flat_atG f s hf m j i h hi
    · obtain rfl : j = m := by omega
      rw [List.getElem?_append_right (by rw [flat_lenG f s hf]; omega), flat_lenG f s hf, show j * s + i - j * s = i by omega]
      simp
theorem own_structsG {w : World} {base : Nat} {e : TypeId} {s m : Nat} {v : Value} (f : Nat → List Value) (hf : ∀ j, (f j).length = s) (h : w.ownsRow base e s v m ((List.range m).flatMap f)) :
    ∃ A c, v = .slice A m c ∧ m ≤ c ∧ c ≤ maxLen ∧ (0 < m → ∃ b off, A = some ⟨b, off, none⟩ ∧ b < w.heap.size ∧ ∀ j, j < m → ∀ i u, (f j)[i]? = some u → w.cell? ⟨b, off + j * s + i, none⟩ = some u) := by
  rcases h.2 with ⟨rfl, rfl⟩ | ⟨g, cap, cur, rfl, hb, hh, hc, hm, hz, ht⟩
  · exact ⟨none, 0, rfl, Nat.le_refl _, by unfold maxLen; omega, fun h => absurd h (by omega)⟩
  · refine ⟨_, _, rfl, hc, hm, fun _ => ⟨g, 0, rfl, (Array.getElem?_eq_some_iff.1 hh).1, fun j hj i u hu => ?_⟩⟩
    have hi : i < s := by
      rcases Nat.lt_or_ge i s with h | h
      · exact h
      · rw [List.getElem?_eq_none (by rw [hf]; exact h)] at hu; cases hu
    rw [cell_of_row w g _ cur e (0, 0) hh, Nat.zero_add]
    have h1 := flat_atG f s hf m j i hj hi
    rw [hu, ← ht, List.getElem?_take] at h1
    split at h1
    · simpa using h1
    · cases h1
theorem cells_len (s : Stp) : s.cells.length = 6 := rfl
theorem flat_steps (l : List Stp) : l.flatMap Stp.cells = (List.range l.length).flatMap fun j => (nthS l j).cells := by
  have e : l = (List.range l.length).map (nthS l) := by
    apply List.ext_getElem (by simp)
    intro j h1 h2
    simp [nthS_eq h1]
  conv => lhs; rw [e]
  rw [List.flatMap_map]

/-- Steps that a call appends: their cells in a row of its own, their bits elsewhere. -/
structure Pile6 (w : World) (base : Nat) (v : Value) (l : List Stp) : Prop where
  own : w.ownsRow base 65 6 v l.length (l.flatMap Stp.cells)
  bits : ∀ s ∈ l, s.op = 9 ∨ s.op = 10 → ∃ b, s.A = some ⟨b, 0, none⟩ ∧ b < w.heap.size ∧ v.ownBlock ≠ some b ∧ ∀ i, i < s.n → w.cell? ⟨b, i, none⟩ = some (.bool (s.B i))
theorem Pile6.nil (w : World) (base : Nat) : Pile6 w base (.slice none 0 0) [] := ⟨World.ownsRow_nil _ _ _ _, fun s hs => by cases hs⟩
theorem Pile6.below {w w' : World} {base : Nat} {v : Value} {l : List Stp} (h : Pile6 w base v l) (hb : Below w.heap.size w w') : Pile6 w' base v l :=
  ⟨own_below h.own hb, fun s hs ho => by
    obtain ⟨b, h1, h2, h3, h4⟩ := h.bits s hs ho
    exact ⟨b, h1, Nat.lt_of_lt_of_le h2 hb.size, h3, fun i hi => (hb.cell (p := ⟨b, i, none⟩) h2).trans (h4 i hi)⟩⟩
theorem Pile6.push {w w' : World} {base : Nat} {v v' : Value} {l : List Stp} {s : Stp} (h : Pile6 w base v l) (hown : w'.ownsRow base 65 6 v' (l.length + 1) (l.flatMap Stp.cells ++ s.cells)) (hg : w.grownBy w' v.ownBlock) (hl : v'.ownBlock = v.ownBlock ∨ v'.ownBlock = some (w.heap.size + 1))
    (hs : s.op = 9 ∨ s.op = 10 → ∃ b, s.A = some ⟨b, 0, none⟩ ∧ b < w.heap.size ∧ v.ownBlock ≠ some b ∧ ∀ i, i < s.n → w.cell? ⟨b, i, none⟩ = some (.bool (s.B i))) : Pile6 w' base v' (l ++ [s]) := by
  have all : ∀ t ∈ l ++ [s], t.op = 9 ∨ t.op = 10 → ∃ b, t.A = some ⟨b, 0, none⟩ ∧ b < w.heap.size ∧ v.ownBlock ≠ some b ∧ ∀ i, i < t.n → w.cell? ⟨b, i, none⟩ = some (.bool (t.B i)) := fun t ht ho => by
    rcases List.mem_append.1 ht with ht | ht
    · exact h.bits t ht ho
    · rw [List.mem_singleton] at ht; subst ht; exact hs ho
  refine ⟨by rw [List.length_append, List.flatMap_append]; simpa using hown, fun t ht ho => ?_⟩
  obtain ⟨b, h1, h2, h3, h4⟩ := all t ht ho
  refine ⟨b, h1, Nat.lt_of_lt_of_le h2 hg.size, fun e => ?_, fun i hi => hg.cell (h4 i hi) (fun e => h3 e.symm)⟩
  rcases hl with hl | hl
  · exact h3 (hl ▸ e)
  · rw [hl] at e; injection e with e; omega
theorem Pile6.steps {w : World} {base : Nat} {v : Value} {l : List Stp} (h : Pile6 w base v l) : ∃ A c, v = .slice A l.length c ∧ l.length ≤ c ∧ c ≤ maxLen ∧ Steps w A l := by
  have ho := h.own
  rw [flat_steps] at ho
  obtain ⟨A, c, h1, h2, h3, h4⟩ := own_structsG (fun j => (nthS l j).cells) (fun j => rfl) ho
  refine ⟨A, c, h1, h2, h3, fun h0 => ?_⟩
  obtain ⟨b, off, e, hb, hc⟩ := h4 h0
  refine ⟨b, off, e, hb, fun j hj => ⟨fun i u hu => hc j hj i u hu, fun ho => ?_⟩⟩
  have hm : nthS l j ∈ l := by rw [nthS_eq hj]; exact List.getElem_mem hj
  obtain ⟨b2, k1, k2, k3, k4⟩ := h.bits _ hm ho
  exact fun _ => ⟨b2, 0, k1, k2, fun i hi => by rw [Nat.zero_add]; exact k4 i hi⟩

/-- A step as it came in. -/
structure Raw where
  op : Int
  X : Int
  Y : Int
  C : Int
  D : Int
  A : Option Addr
  n : Nat
  c : Nat
  B : Nat → Bool
def Raw.cells (s : Raw) : List Value := [.int .i64 s.op, .int .i64 s.X, .int .i64 s.Y, .int .i64 s.C, .int .i64 s.D, .slice s.A s.n s.c]
def i64In (x : Int) : Prop := -9223372036854775808 ≤ x ∧ x ≤ 9223372036854775807
def Raws (w : World) (A : Option Addr) (n : Nat) (Z : Nat → Raw) : Prop :=
  0 < n → ∃ b off, A = some ⟨b, off, none⟩ ∧ b < w.heap.size ∧ ∀ j, j < n → (∀ i v, (Z j).cells[i]? = some v → w.cell? ⟨b, off + j * 6 + i, none⟩ = some v) ∧ (i64In (Z j).op ∧ i64In (Z j).X ∧ i64In (Z j).Y ∧ i64In (Z j).C ∧ i64In (Z j).D) ∧ (Z j).n ≤ (Z j).c ∧ (Z j).c ≤ maxLen ∧ Rd w (Z j).A (Z j).n (fun i => .bool ((Z j).B i))
theorem Raws.below {w w' : World} {A : Option Addr} {n : Nat} {Z : Nat → Raw} (h : Raws w A n Z) (hb : Below w.heap.size w w') : Raws w' A n Z := fun h0 => by
  obtain ⟨b, off, e, hlt, hc⟩ := h h0
  refine ⟨b, off, e, Nat.lt_of_lt_of_le hlt hb.size, fun j hj => ⟨fun i v hv => ?_, (hc j hj).2.1, (hc j hj).2.2.1, (hc j hj).2.2.2.1, (hc j hj).2.2.2.2.below hb⟩⟩
  exact (hb.cell (p := ⟨b, off + j * 6 + i, none⟩) hlt).trans ((hc j hj).1 i v hv)
theorem tmod_small (x : Int) (m : Nat) (hm : 0 < m) (hl : m < 900) : -1000 < x.tmod m ∧ x.tmod m < 1000 := by
  have h1 := Int.tmod_lt_of_pos x (show (0 : Int) < (m : Int) by omega)
  have h2 : -(m : Int) < x.tmod m := by
    have := Int.lt_tmod_of_pos x (show (0 : Int) < (m : Int) by omega)
    omega
  omega
end Go.Proofs.Ytcfcbcjaiplllaa
