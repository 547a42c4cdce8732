/-
  Rows of bools that a call appends one by one. No condition beyond the bounds that each theorem states.
-/
import Derived.Test.YtfnfikmijkeimaaCPM
import Derived.Test.YtfnfikmijkeimaaAPZ
import Derived.Test.YtfnfikmijkeimaaBGR
namespace Go.Proofs.Ytfnfikmijkeimaa
open Go.RowKit Go.Qz
set_option linter.unusedVariables false

/-- k rows of W bools each that were appended; rows lie in blocks of the call's own. -/
structure Pile (w : World) (base : Nat) (v : Value) (k W : Nat) (V : Nat → Value) (f : Nat → Nat → Bool) : Prop where
  own : w.ownsRow base 40 1 v k ((List.range k).map V)
  row : ∀ r, r < k → ∃ b C, V r = .slice (some ⟨b, 0, none⟩) W C ∧ base ≤ b ∧ b < w.heap.size ∧ v.ownBlock ≠ some b ∧ W ≤ C ∧ ∀ c, c < W → w.cell? ⟨b, c, none⟩ = some (.bool (f r c))
theorem Pile.zero (w : World) (base W : Nat) (f : Nat → Nat → Bool) : Pile w base (.slice none 0 0) 0 W (fun _ => undef) f := ⟨World.ownsRow_nil _ _ _ _, fun r hr => by omega⟩
theorem Pile.congr {w : World} {base k W : Nat} {v : Value} {V : Nat → Value} {f g : Nat → Nat → Bool} (h : Pile w base v k W V f) (hg : ∀ r c, r < k → c < W → f r c = g r c) : Pile w base v k W V g :=
  ⟨h.own, fun r hr => by
    obtain ⟨b, C, e, h1, h2, h3, h4, h5⟩ := h.row r hr
    exact ⟨b, C, e, h1, h2, h3, h4, fun c hc => by rw [← hg r c hr hc]; exact h5 c hc⟩⟩
theorem Pile.below {w w' : World} {base k W : Nat} {v : Value} {V : Nat → Value} {f : Nat → Nat → Bool} (h : Pile w base v k W V f) (hb : Below w.heap.size w w') : Pile w' base v k W V f :=
  ⟨own_below h.own hb, fun r hr => by
    obtain ⟨b, C, e, h1, h2, h3, h4, h5⟩ := h.row r hr
    exact ⟨b, C, e, h1, Nat.lt_of_lt_of_le h2 hb.size, h3, h4, fun c hc => (hb.cell (p := ⟨b, c, none⟩) h2).trans (h5 c hc)⟩⟩
theorem Pile.push {w w' : World} {base k W : Nat} {v v' : Value} {V : Nat → Value} {f : Nat → Nat → Bool} (h : Pile w base v k W V f) {b C : Nat} (h1 : base ≤ b) (h2 : b < w.heap.size) (h3 : v.ownBlock ≠ some b) (h4 : W ≤ C) (h5 : ∀ c, c < W → w.cell? ⟨b, c, none⟩ = some (.bool (f k c)))
    (hown : w'.ownsRow base 40 1 v' (k + 1) ((List.range k).map V ++ [.slice (some ⟨b, 0, none⟩) W C])) (hg : w.grownBy w' v.ownBlock) (hl : v'.ownBlock = v.ownBlock ∨ v'.ownBlock = some (w.heap.size + 1)) :
    Pile w' base v' (k + 1) W (fun r => if r = k then .slice (some ⟨b, 0, none⟩) W C else V r) f := by
  have hlt : ∀ b, b < w.heap.size → v.ownBlock ≠ some b → v'.ownBlock ≠ some b := fun b hb hn e => by
    rcases hl with hl | hl
    · exact hn (hl ▸ e)
    · rw [hl] at e; injection e with e; omega
  refine ⟨?_, fun r hr => ?_⟩
  · rw [List.range_succ, List.map_append, List.map_cons, List.map_nil, if_pos rfl, List.map_congr_left (g := V) (fun r hr => if_neg (by have := List.mem_range.1 hr; omega))]
    exact hown
  · by_cases e : r = k
    · subst e
      exact ⟨b, C, if_pos rfl, h1, Nat.lt_of_lt_of_le h2 hg.size, hlt b h2 h3, h4, fun c hc => hg.cell (h5 c hc) (fun e => h3 e.symm)⟩
    · obtain ⟨b', C', e', k1, k2, k3, k4, k5⟩ := h.row r (by omega)
      exact ⟨b', C', by rw [if_neg e]; exact e', k1, Nat.lt_of_lt_of_le k2 hg.size, hlt b' k2 k3, k4, fun c hc => hg.cell (k5 c hc) (fun e => k3 e.symm)⟩
/-- Rows that were appended can be read. -/
theorem Pile.rows {w : World} {base H W : Nat} {v : Value} {V : Nat → Value} {f : Nat → Nat → Bool} (h : Pile w base v H W V f) : ∃ A c, v = .slice A H c ∧ H ≤ c ∧ c ≤ maxLen ∧ Rows2 w A H W f := by
  obtain ⟨A, c, rfl, h1, h2, h3⟩ := Rd.of_own h.own
  refine ⟨A, c, rfl, h1, h2, fun h0 => ?_⟩
  obtain ⟨b, off, e, hb, hc⟩ := h3 h0
  refine ⟨b, off, e, hb, fun r hr => ?_⟩
  obtain ⟨b', C', e', k1, k2, k3, k4, k5⟩ := h.row r hr
  refine ⟨some ⟨b', 0, none⟩, C', ?_, fun _ => ⟨b', 0, rfl, k2, fun c hc => by rw [Nat.zero_add]; exact k5 c hc⟩⟩
  rw [hc r hr, ← e']
  simp [List.getD_eq_getElem?_getD, List.getElem?_map, List.getElem?_range hr]
/-- A new row that is full is the call's own. -/
theorem own_full (w : World) (e : TypeId) (z : Value) (n base : Nat) (hb : base ≤ w.heap.size) (hn : n ≤ maxLen) : (w.alloc (.cells (zeros n z) e)).ownsRow base e 1 (.slice (some ⟨w.heap.size, 0, none⟩) n n) n (List.replicate n z) :=
  ⟨by simp, .inr ⟨w.heap.size, n, zeros n z, rfl, hb, heap_alloc_new w _, Nat.le_refl _, hn, by simp [zeros], by simp [zeros]⟩⟩
end Go.Proofs.Ytfnfikmijkeimaa
