/-
  Rows of bools that are the call's own, each in a block of its own, and that are written. No condition beyond the bounds that each theorem states.
-/
import Derived.Test.YtcfcbcjaiplllaaBGR
import Derived.Test.YtcfcbcjaiplllaaPSH
namespace Go.Proofs.Ytcfcbcjaiplllaa
open Go.RowKit Go.Qz
set_option linter.unusedVariables false

/-- The rows r of D, W bools each: row r in block R r. -/
structure RW (w : World) (base W : Nat) (D : Nat → Prop) (f : Nat → Nat → Bool) (R : Nat → Nat) : Prop where
  lo : ∀ r, D r → base ≤ R r
  lt : ∀ r, D r → R r < w.heap.size
  inj : ∀ r r', D r → D r' → R r = R r' → r = r'
  free : ∀ r c, D r → w.frozen? ⟨R r, c, none⟩ = false
  cell : ∀ r c, D r → c < W → w.cell? ⟨R r, c, none⟩ = some (.bool (f r c))
/-- .. with a row of headers in block G. -/
structure WR (w : World) (base G W : Nat) (D : Nat → Prop) (f : Nat → Nat → Bool) (R C : Nat → Nat) : Prop where
  rows : RW w base W D f R
  glo : base ≤ G
  glt : G < w.heap.size
  gfree : ∀ r, w.frozen? ⟨G, r, none⟩ = false
  ne : ∀ r, D r → R r ≠ G
  head : ∀ r, D r → w.cell? ⟨G, r, none⟩ = some (.slice (some ⟨R r, 0, none⟩) W (C r))
  cap : ∀ r, D r → W ≤ C r ∧ C r ≤ maxLen
section
variable {w w' : World} {base G W : Nat} {D : Nat → Prop} {f g : Nat → Nat → Bool} {R C : Nat → Nat}
theorem RW.congr (h : RW w base W D f R) (hg : ∀ r c, D r → c < W → f r c = g r c) : RW w base W D g R :=
  ⟨h.lo, h.lt, h.inj, h.free, fun r c hr hc => by rw [← hg r c hr hc]; exact h.cell r c hr hc⟩
theorem WR.congr (h : WR w base G W D f R C) (hg : ∀ r c, D r → c < W → f r c = g r c) : WR w base G W D g R C :=
  ⟨h.rows.congr hg, h.glo, h.glt, h.gfree, h.ne, h.head, h.cap⟩
theorem RW.mod {S : Nat → Prop} (h : RW w base W D f R) (hm : Mod S w w') (hs : ∀ r, D r → ¬ S (R r)) : RW w' base W D f R :=
  ⟨h.lo, fun r hr => Nat.lt_of_lt_of_le (h.lt r hr) hm.size, h.inj,
   fun r c hr => (World.frozen?_of_block (w := w) (a := ⟨R r, c, none⟩) (hm.block _ (h.lt r hr) (hs r hr))).trans (h.free r c hr),
   fun r c hr hc => (World.cell?_of_block (w := w) (a := ⟨R r, c, none⟩) (hm.block _ (h.lt r hr) (hs r hr))).trans (h.cell r c hr hc)⟩
theorem WR.mod {S : Nat → Prop} (h : WR w base G W D f R C) (hm : Mod S w w') (hG : ¬ S G) (hs : ∀ r, D r → ¬ S (R r)) : WR w' base G W D f R C :=
  ⟨h.rows.mod hm hs, h.glo, Nat.lt_of_lt_of_le h.glt hm.size,
   fun r => (World.frozen?_of_block (w := w) (a := ⟨G, r, none⟩) (hm.block _ h.glt hG)).trans (h.gfree r), h.ne,
   fun r hr => (World.cell?_of_block (w := w) (a := ⟨G, r, none⟩) (hm.block _ h.glt hG)).trans (h.head r hr), h.cap⟩
theorem WR.below (h : WR w base G W D f R C) (hb : Below w.heap.size w w') : WR w' base G W D f R C := h.mod (Mod.of_below (S := fun _ => False) hb) (fun h => h) (fun _ _ h => h)
theorem RW.base_ (h : RW w base W D f R) {b : Nat} (hb : b ≤ base) : RW w b W D f R := ⟨fun r hr => Nat.le_trans hb (h.lo r hr), h.lt, h.inj, h.free, h.cell⟩
theorem WR.base_ (h : WR w base G W D f R C) {b : Nat} (hb : b ≤ base) : WR w b G W D f R C := ⟨h.rows.base_ hb, Nat.le_trans hb h.glo, h.glt, h.gfree, h.ne, h.head, h.cap⟩
theorem RW.set_ (h : RW w base W D f R) (r c : Nat) (hr : D r) (hc : c < W) (v : Bool) (hg : ∀ r' c', D r' → c' < W → g r' c' = if r' = r ∧ c' = c then v else f r' c') : RW (w.setCell ⟨R r, c, none⟩ (.bool v)) base W D g R := by
  refine ⟨h.lo, fun r' hr' => by rw [World.size_setCell]; exact h.lt r' hr', h.inj, fun r' c' hr' => by rw [World.frozen?_setCell]; exact h.free r' c' hr', fun r' c' hr' hc' => ?_⟩
  rw [hg r' c' hr' hc']
  by_cases e : r' = r ∧ c' = c
  · obtain ⟨rfl, rfl⟩ := e
    rw [if_pos ⟨rfl, rfl⟩]
    exact World.cell?_setCell_same _ _ _ (h.cell r' c' hr' hc')
  · rw [if_neg e, World.cell?_setCell_other _ _ _ _ (fun e2 => e (by
      injection e2 with e3 e4 _
      exact ⟨(h.inj r r' hr hr' e3).symm, e4.symm⟩))]
    exact h.cell r' c' hr' hc'
theorem WR.set_ (h : WR w base G W D f R C) (r c : Nat) (hr : D r) (hc : c < W) (v : Bool) (hg : ∀ r' c', D r' → c' < W → g r' c' = if r' = r ∧ c' = c then v else f r' c') : WR (w.setCell ⟨R r, c, none⟩ (.bool v)) base G W D g R C := by
  refine ⟨h.rows.set_ r c hr hc v hg, h.glo, by rw [World.size_setCell]; exact h.glt, fun r' => by rw [World.frozen?_setCell]; exact h.gfree r', h.ne, fun r' hr' => ?_, h.cap⟩
  rw [World.cell?_setCell_other _ _ _ _ (fun e => h.ne r hr (by injection e))]
  exact h.head r' hr'
/-- A row is put in place of another, or beside the others. -/
theorem WR.put (h : WR w base G W D f R C) (r b c : Nat) (D' : Nat → Prop) (hD : ∀ r', D' r' ↔ D r' ∨ r' = r) (hb : base ≤ b) (hbl : b < w.heap.size) (hbG : b ≠ G) (hbR : ∀ r', D r' → b ≠ R r') (hfree : ∀ c, w.frozen? ⟨b, c, none⟩ = false) (hcell : ∀ c, c < W → w.cell? ⟨b, c, none⟩ = some (.bool (g r c)))
    (hg : ∀ r' c, D r' → c < W → r' ≠ r → g r' c = f r' c) (hWc : W ≤ c ∧ c ≤ maxLen) (hcl : ∃ u, w.cell? ⟨G, r, none⟩ = some u) :
    WR (w.setCell ⟨G, r, none⟩ (.slice (some ⟨b, 0, none⟩) W c)) base G W D' g (fun i => if i = r then b else R i) (fun i => if i = r then c else C i) := by
  have hold : ∀ r', D' r' → r' ≠ r → D r' := fun r' h1 h2 => ((hD r').1 h1).resolve_right h2
  refine ⟨⟨fun r' hr' => ?_, fun r' hr' => ?_, fun r1 r2 h1 h2 e => ?_, fun r' c' hr' => ?_, fun r' c' hr' hc' => ?_⟩, h.glo, by rw [World.size_setCell]; exact h.glt, fun r' => by rw [World.frozen?_setCell]; exact h.gfree r', fun r' hr' => ?_, fun r' hr' => ?_, fun r' hr' => ?_⟩
  · by_cases e : r' = r
    · rw [if_pos e]; exact hb
    · rw [if_neg e]; exact h.rows.lo r' (hold r' hr' e)
  · rw [World.size_setCell]
    by_cases e : r' = r
    · rw [if_pos e]; exact hbl
    · rw [if_neg e]; exact h.rows.lt r' (hold r' hr' e)
  · by_cases e1 : r1 = r <;> by_cases e2 : r2 = r
    · rw [e1, e2]
    · rw [if_pos e1, if_neg e2] at e; exact absurd e (hbR r2 (hold r2 h2 e2))
    · rw [if_neg e1, if_pos e2] at e; exact absurd e.symm (hbR r1 (hold r1 h1 e1))
    · rw [if_neg e1, if_neg e2] at e; exact h.rows.inj r1 r2 (hold r1 h1 e1) (hold r2 h2 e2) e
  · rw [World.frozen?_setCell]
    by_cases e : r' = r
    · rw [if_pos e]; exact hfree c'
    · rw [if_neg e]; exact h.rows.free r' c' (hold r' hr' e)
  · by_cases e : r' = r
    · rw [if_pos e, World.cell?_setCell_other _ _ _ _ (fun e2 => hbG (by injection e2 with e3 _ _; exact e3.symm)), e]; exact hcell c' hc'
    · rw [if_neg e, World.cell?_setCell_other _ _ _ _ (fun e2 => h.ne r' (hold r' hr' e) (by injection e2 with e3 _ _; exact e3.symm)), hg r' c' (hold r' hr' e) hc' e]
      exact h.rows.cell r' c' (hold r' hr' e) hc'
  · by_cases e : r' = r
    · rw [if_pos e]; exact hbG
    · rw [if_neg e]; exact h.ne r' (hold r' hr' e)
  · by_cases e : r' = r
    · subst e
      obtain ⟨u, hu⟩ := hcl
      rw [if_pos rfl, if_pos rfl, World.cell?_setCell_same _ _ _ hu]
    · rw [if_neg e, if_neg e, World.cell?_setCell_other _ _ _ _ (fun e2 => e (by injection e2 with _ e3 _; exact e3.symm))]
      exact h.head r' (hold r' hr' e)
  · by_cases e : r' = r
    · rw [if_pos e]; exact hWc
    · rw [if_neg e]; exact h.cap r' (hold r' hr' e)
theorem WR.rows2 {H : Nat} (h : WR w base G W (· < H) f R C) : Rows2 w (some ⟨G, 0, none⟩) H W f := fun h0 =>
  ⟨G, 0, rfl, h.glt, fun r hr => ⟨some ⟨R r, 0, none⟩, C r, by rw [Nat.zero_add]; exact h.head r hr, fun h1 => ⟨R r, 0, rfl, h.rows.lt r hr, fun c hc => by rw [Nat.zero_add]; exact h.rows.cell r c hr hc⟩⟩⟩
/-- One more row, beside the others. -/
theorem RW.add (h : RW w base W D f R) (r b : Nat) (D' : Nat → Prop) (hD : ∀ r', D' r' ↔ D r' ∨ r' = r) (hr : ¬ D r) (hb : base ≤ b) (hbl : b < w.heap.size) (hbR : ∀ r', D r' → b ≠ R r') (hfree : ∀ c, w.frozen? ⟨b, c, none⟩ = false) (hcell : ∀ c, c < W → w.cell? ⟨b, c, none⟩ = some (.bool (f r c))) :
    RW w base W D' f (fun i => if i = r then b else R i) := by
  have hold : ∀ r', D' r' → r' ≠ r → D r' := fun r' h1 h2 => ((hD r').1 h1).resolve_right h2
  refine ⟨fun r' hr' => ?_, fun r' hr' => ?_, fun r1 r2 h1 h2 e => ?_, fun r' c' hr' => ?_, fun r' c' hr' hc' => ?_⟩
  · by_cases e : r' = r
    · rw [if_pos e]; exact hb
    · rw [if_neg e]; exact h.lo r' (hold r' hr' e)
  · by_cases e : r' = r
    · rw [if_pos e]; exact hbl
    · rw [if_neg e]; exact h.lt r' (hold r' hr' e)
  · by_cases e1 : r1 = r <;> by_cases e2 : r2 = r
    · rw [e1, e2]
    · rw [if_pos e1, if_neg e2] at e; exact absurd e (hbR r2 (hold r2 h2 e2))
    · rw [if_neg e1, if_pos e2] at e; exact absurd e.symm (hbR r1 (hold r1 h1 e1))
    · rw [if_neg e1, if_neg e2] at e; exact h.inj r1 r2 (hold r1 h1 e1) (hold r2 h2 e2) e
  · by_cases e : r' = r
    · rw [if_pos e]; exact hfree c'
    · rw [if_neg e]; exact h.free r' c' (hold r' hr' e)
  · by_cases e : r' = r
    · rw [if_pos e, e]; exact hcell c' hc'
    · rw [if_neg e]; exact h.cell r' c' (hold r' hr' e) hc'
theorem RW.none (w : World) (base W : Nat) (f : Nat → Nat → Bool) (R : Nat → Nat) : RW w base W (· < 0) f R :=
  ⟨fun r hr => absurd hr (by omega), fun r hr => absurd hr (by omega), fun r r' hr => absurd hr (by omega), fun r c hr => absurd hr (by omega), fun r c hr => absurd hr (by omega)⟩
end
/-- A row of the call's own that is not empty: its block and its cells. -/
theorem own_cells {w : World} {base n : Nat} {e : TypeId} {v : Value} {xs : List Value} (h : w.ownsRow base e 1 v n xs) (hn : 0 < n) :
    ∃ g cap, v = .slice (some ⟨g, 0, none⟩) n cap ∧ base ≤ g ∧ g < w.heap.size ∧ n ≤ cap ∧ cap ≤ maxLen ∧ (∀ c, w.frozen? ⟨g, c, none⟩ = false) ∧ ∀ c u, xs[c]? = some u → w.cell? ⟨g, c, none⟩ = some u := by
  rcases h.2 with ⟨_, rfl⟩ | ⟨g, cap, cur, rfl, hb, hh, hc, hm, hz, ht⟩
  · omega
  · refine ⟨g, cap, rfl, hb, (Array.getElem?_eq_some_iff.1 hh).1, hc, hm, fun c => by simp [World.frozen?, hh], fun c u hu => ?_⟩
    have hl : c < n := by
      have h1 := h.1
      have h2 := (List.getElem?_eq_some_iff.1 hu).1
      omega
    rw [cell_of_row w g c cur e (0, 0) hh]
    rw [← ht, List.getElem?_take, if_pos (by omega)] at hu
    simpa using hu
end Go.Proofs.Ytcfcbcjaiplllaa
