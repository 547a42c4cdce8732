/-
  Steps that came in as an argument: what its reading tells. No condition.
-/
import Derived.Test.YtcfcbcjaiplllaaBHE
import Derived.Deep.SlicePairs
import Derived.Deep.Grids
namespace Go.Proofs.Ytcfcbcjaiplllaa
open Go.RowKit Go.Qz Go.ChangeShapes Go.WideShapes Go.ChangeAt Go.Deep
set_option linter.unusedVariables false
instance : Inhabited Raw := ⟨⟨0, 0, 0, 0, 0, none, 0, 0, fun _ => false⟩⟩
section
variable {H : Type} {enc : TypeId × Value → H} {P : Program} {W : World}
theorem add_off (b off j : Nat) : (⟨b, off, none⟩ : Addr).add j = ⟨b, off + j, none⟩ := by
  unfold Addr.add
  split
  · rename_i h; rw [h, Nat.add_zero]
  · rfl
theorem raws_in {t e tb : TypeId} {f0 f1 f2 f3 f4 f5 : Field} {a0 : Option Addr} {len0 cap0 : Nat} {d : DataW H} {p : List MemPlace} (ht : P.underlying t = some (.slice e)) (he : P.underlying e = some (.struct #[f0, f1, f2, f3, f4, f5])) (ce : P.cellsOf e = 6)
    (o0 : f0.offset = 0) (o1 : f1.offset = 1) (o2 : f2.offset = 2) (o3 : f3.offset = 3) (o4 : f4.offset = 4) (o5 : f5.offset = 5)
    (c0 : P.cellsOf f0.type = 1) (c1 : P.cellsOf f1.type = 1) (c2 : P.cellsOf f2.type = 1) (c3 : P.cellsOf f3.type = 1) (c4 : P.cellsOf f4.type = 1) (c5 : P.cellsOf f5.type = 1)
    (i0 : P.underlying f0.type = some (.int .i64)) (i1 : P.underlying f1.type = some (.int .i64)) (i2 : P.underlying f2.type = some (.int .i64)) (i3 : P.underlying f3.type = some (.int .i64)) (i4 : P.underlying f4.type = some (.int .i64))
    (b5 : P.underlying f5.type = some (.slice tb)) (bb : P.underlying tb = some .bool) (cb : P.cellsOf tb = 1)
    (h : DataW.Trod enc P W 0 (fun _ => true) true t (.slice a0 len0 cap0) d p) :
    len0 ≤ cap0 ∧ cap0 ≤ maxLen ∧ ∃ Z : Nat → Raw, Raws W a0 len0 Z := by
  obtain ⟨fuel, hf⟩ := h
  rcases open_slice ht hf with ⟨hcs, _⟩ | ⟨a, len, cap, m, n, D, Pl, hcs, hb, hl, hm, hmm, hx0, hx⟩
  · simp [Value.cells] at hcs
    obtain ⟨rfl, rfl, rfl⟩ := hcs
    exact ⟨Nat.le_refl _, by unfold maxLen; omega, default, fun h => by omega⟩
  · simp [Value.cells] at hcs
    obtain ⟨rfl, rfl, rfl⟩ := hcs
    simp only [if_true] at hmm
    obtain ⟨b, off, spot⟩ := a
    have each : ∀ i, i < m → ∃ s : Raw, (∀ k v, s.cells[k]? = some v → W.cell? ((⟨b, off, spot⟩ : Addr).add (i * 6 + k)) = some v) ∧ (i64In s.op ∧ i64In s.X ∧ i64In s.Y ∧ i64In s.C ∧ i64In s.D) ∧ s.n ≤ s.c ∧ s.c ≤ maxLen ∧ Rd W s.A s.n (fun j => .bool (s.B j)) := by
      intro i hi
      obtain ⟨cs', h1, h2⟩ := hx i hi
      rw [ce] at h1
      obtain ⟨_, hlen, hcell⟩ := World.cells?_some h1
      obtain ⟨xs, k, hk, hxy, _, hxl, hfl⟩ := DataW.trod_struct he h2
      match xs, hxl, cs', hlen with
      | [y0, y1, y2, y3, y4, y5], _, [v0, v1, v2, v3, v4, v5], _ =>
        have g0 := hfl 0 f0 rfl
        have g1 := hfl 1 f1 rfl
        have g2 := hfl 2 f2 rfl
        have g3 := hfl 3 f3 rfl
        have g4 := hfl 4 f4 rfl
        have g5 := hfl 5 f5 rfl
        simp [o0, o1, o2, o3, o4, o5, c0, c1, c2, c3, c4, c5] at g0 g1 g2 g3 g4 g5
        obtain ⟨x0, e0, _, w0⟩ := DataW.trod_int i0 g0
        obtain ⟨x1, e1, _, w1⟩ := DataW.trod_int i1 g1
        obtain ⟨x2, e2, _, w2⟩ := DataW.trod_int i2 g2
        obtain ⟨x3, e3, _, w3⟩ := DataW.trod_int i3 g3
        obtain ⟨x4, e4, _, w4⟩ := DataW.trod_int i4 g4
        injection e0 with e0 _
        injection e1 with e1 _
        injection e2 with e2 _
        injection e3 with e3 _
        injection e4 with e4 _
        subst e0 e1 e2 e3 e4
        have hall : ∀ (A : Option Addr) (n c : Nat) (B : Nat → Bool), v5 = .slice A n c → ∀ k v, (Raw.mk x0 x1 x2 x3 x4 A n c B).cells[k]? = some v → W.cell? ((⟨b, off, spot⟩ : Addr).add (i * 6 + k)) = some v := fun A n c B e5 k v hv => by
          subst e5
          have hk6 : k < 6 := by
            have := (List.getElem?_eq_some_iff.1 hv).1
            simpa [Raw.cells] using this
          have := hcell k hk6
          rw [add_add] at this
          rw [this]
          exact hv
        rcases open_bools b5 bb cb g5 with ⟨e5, _⟩ | ⟨a5, l5, k5, B5, e5, _, hl5, hm5, _, hc5⟩
        · injection e5 with e5 _
          exact ⟨⟨x0, x1, x2, x3, x4, none, 0, 0, fun _ => false⟩, hall _ _ _ _ e5, ⟨bd_i64 w0, bd_i64 w1, bd_i64 w2, bd_i64 w3, bd_i64 w4⟩, Nat.le_refl _, Nat.zero_le _, fun h => absurd h (by simp)⟩
        · injection e5 with e5 _
          refine ⟨⟨x0, x1, x2, x3, x4, some a5, l5, k5, B5⟩, hall _ _ _ _ e5, ⟨bd_i64 w0, bd_i64 w1, bd_i64 w2, bd_i64 w3, bd_i64 w4⟩, hl5, hm5, fun h0 => ?_⟩
          obtain ⟨b9, o9, s9⟩ := a5
          have h9 := hc5 0 (by have : 0 < l5 := h0; omega)
          have hspot : s9 = none := by simpa [Addr.add] using World.cell?_spot h9
          subst hspot
          refine ⟨b9, o9, rfl, ?_, fun j hj => ?_⟩
          · have := World.block_lt_of_cell? W _ h9
            simpa [Addr.add] using this
          · have h10 := hc5 j (by have : j < l5 := hj; omega)
            rw [add_off] at h10
            exact h10
    obtain ⟨Z, hZ⟩ := choose_lt each
    refine ⟨hl, hm, Z, fun h0 => ?_⟩
    have h1 := (hZ 0 (by omega)).1 0 _ rfl
    have hspot : spot = none := by simpa [Addr.add] using World.cell?_spot h1
    subst hspot
    refine ⟨b, off, rfl, ?_, fun j hj => ?_⟩
    · have := World.block_lt_of_cell? W _ h1
      simpa [Addr.add] using this
    · obtain ⟨k1, k2, k3, k4, k5⟩ := hZ j (by omega)
      refine ⟨fun i v hv => ?_, k2, k3, k4, k5⟩
      have := k1 i v hv
      rw [add_off, ← Nat.add_assoc] at this
      exact this
end
end Go.Proofs.Ytcfcbcjaiplllaa
