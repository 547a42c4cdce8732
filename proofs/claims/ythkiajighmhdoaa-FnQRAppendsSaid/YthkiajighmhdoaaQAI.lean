/-
  Segments (a number and bytes) that came in as an argument: what their reading tells. No condition.
-/
import Derived.Test.YthkiajighmhdoaaBase
import Derived.Deep.SlicePairs
import Derived.Deep.Grids
namespace Go.Proofs.Ythkiajighmhdoaa
open Go.RowKit Go.Qz Go.ChangeShapes Go.WideShapes Go.ChangeAt Go.Deep
set_option linter.unusedVariables false
/-- A segment as it came in. -/
structure SegR where
  mode : Int
  A : Option Addr
  n : Nat
  c : Nat
  z : Nat → Int
instance : Inhabited SegR := ⟨⟨0, none, 0, 0, fun _ => 0⟩⟩
def SegR.cells (s : SegR) : List Value := [.int .i64 s.mode, .slice s.A s.n s.c]
def SegsR (W : World) (A : Option Addr) (len : Nat) (Z : Nat → SegR) : Prop := 0 < len → ∃ b off, A = some ⟨b, off, none⟩ ∧ b < W.heap.size ∧ ∀ j, j < len →
  (∀ i v, (Z j).cells[i]? = some v → W.cell? ⟨b, off + j * 2 + i, none⟩ = some v) ∧ (-9223372036854775808 ≤ (Z j).mode ∧ (Z j).mode ≤ 9223372036854775807) ∧ (Z j).n ≤ (Z j).c ∧ (Z j).c ≤ maxLen ∧ (∀ i, i < (Z j).n → 0 ≤ (Z j).z i ∧ (Z j).z i ≤ 255) ∧ Rd W (Z j).A (Z j).n (fun i => .int .u8 ((Z j).z i))
theorem SegsR.below {W W' : World} {A : Option Addr} {len : Nat} {Z : Nat → SegR} (h : SegsR W A len Z) (hb : Below W.heap.size W W') : SegsR W' A len Z := by
  intro h0
  obtain ⟨b, off, e, hl, hx⟩ := h h0
  refine ⟨b, off, e, Nat.lt_of_lt_of_le hl hb.size, fun j hj => ?_⟩
  obtain ⟨k1, k2, k3, k4, k5, k6⟩ := hx j hj
  exact ⟨fun i v hv => (hb.cell (p := ⟨b, off + j * 2 + i, none⟩) hl).trans (k1 i v hv), k2, k3, k4, k5, k6.below hb⟩
section
variable {H : Type} {enc : TypeId × Value → H} {P : Program} {W : World}
theorem add_off (b off j : Nat) : (⟨b, off, none⟩ : Addr).add j = ⟨b, off + j, none⟩ := by
  unfold Addr.add
  split
  · rename_i h; rw [h, Nat.add_zero]
  · rfl
theorem segs_in {t e tb : TypeId} {f0 f1 : Field} {a0 : Option Addr} {len0 cap0 : Nat} {d : DataW H} {p : List MemPlace} (ht : P.underlying t = some (.slice e)) (he : P.underlying e = some (.struct #[f0, f1])) (ce : P.cellsOf e = 2)
    (o0 : f0.offset = 0) (o1 : f1.offset = 1) (c0 : P.cellsOf f0.type = 1) (c1 : P.cellsOf f1.type = 1)
    (i0 : P.underlying f0.type = some (.int .i64)) (b1 : P.underlying f1.type = some (.slice tb)) (bb : P.underlying tb = some (.int .u8)) (cb : P.cellsOf tb = 1)
    (h : DataW.Trod enc P W 0 (fun _ => true) true t (.slice a0 len0 cap0) d p) :
    len0 ≤ cap0 ∧ cap0 ≤ maxLen ∧ ∃ Z : Nat → SegR, SegsR W a0 len0 Z := by
  obtain ⟨fuel, hf⟩ := h
  rcases open_slice ht hf with ⟨hcs, _⟩ | ⟨a, len, cap, m, n, D, Pl, hcs, hb, hl, hm, hmm, hx0, hx⟩
  · simp [Value.cells] at hcs
    obtain ⟨rfl, rfl, rfl⟩ := hcs
    exact ⟨Nat.le_refl _, by unfold maxLen; omega, default, fun h => by omega⟩
  · simp [Value.cells] at hcs
    obtain ⟨rfl, rfl, rfl⟩ := hcs
    simp only [if_true] at hmm
    obtain ⟨b, off, spot⟩ := a
    have each : ∀ i, i < m → ∃ s : SegR, (∀ k v, s.cells[k]? = some v → W.cell? ((⟨b, off, spot⟩ : Addr).add (i * 2 + k)) = some v) ∧ (-9223372036854775808 ≤ s.mode ∧ s.mode ≤ 9223372036854775807) ∧ s.n ≤ s.c ∧ s.c ≤ maxLen ∧ (∀ i, i < s.n → 0 ≤ s.z i ∧ s.z i ≤ 255) ∧ Rd W s.A s.n (fun j => .int .u8 (s.z j)) := by
      intro i hi
      obtain ⟨cs', h1, h2⟩ := hx i hi
      rw [ce] at h1
      obtain ⟨_, hlen, hcell⟩ := World.cells?_some h1
      obtain ⟨xs, k, hk, hxy, _, hxl, hfl⟩ := DataW.trod_struct he h2
      match xs, hxl, cs', hlen with
      | [y0, y1], _, [v0, v1], _ =>
        have g0 := hfl 0 f0 rfl
        have g1 := hfl 1 f1 rfl
        simp [o0, o1, c0, c1] at g0 g1
        obtain ⟨x0, e0, _, w0⟩ := DataW.trod_int i0 g0
        injection e0 with e0 _
        subst e0
        have hall : ∀ (A : Option Addr) (n c : Nat) (B : Nat → Int), v1 = .slice A n c → ∀ k v, (SegR.mk x0 A n c B).cells[k]? = some v → W.cell? ((⟨b, off, spot⟩ : Addr).add (i * 2 + k)) = some v := fun A n c B e5 k v hv => by
          subst e5
          have hk6 : k < 2 := by
            have := (List.getElem?_eq_some_iff.1 hv).1
            simpa [SegR.cells] using this
          have := hcell k hk6
          rw [add_add] at this
          rw [this]
          exact hv
        rcases open_ints b1 bb cb g1 with ⟨e5, _⟩ | ⟨a5, l5, k5, zs, e5, _, hl5, hm5, hz, _, hc5, hwz⟩
        · injection e5 with e5 _
          exact ⟨⟨x0, none, 0, 0, fun _ => 0⟩, hall _ _ _ _ e5, bd_i64 w0, Nat.le_refl _, Nat.zero_le _, fun i h => absurd h (by simp), fun h => absurd h (by simp)⟩
        · injection e5 with e5 _
          simp only [if_true] at hz
          refine ⟨⟨x0, some a5, l5, k5, fun j => zs.getD j 0⟩, hall _ _ _ _ e5, bd_i64 w0, hl5, hm5, fun j hj => ?_, fun h0 => ?_⟩
          · have hj' : j < zs.length := by have : j < l5 := hj; omega
            have : zs.getD j 0 ∈ zs := by
              rw [List.getD_eq_getElem?_getD, List.getElem?_eq_getElem hj']; exact List.getElem_mem hj'
            exact bd_u8 (hwz _ this)
          · obtain ⟨b9, o9, s9⟩ := a5
            have h9 := hc5 0 (by have : 0 < l5 := h0; omega)
            have hspot : s9 = none := by simpa [Addr.add] using World.cell?_spot h9
            subst hspot
            refine ⟨b9, o9, rfl, ?_, fun j hj => ?_⟩
            · have := World.block_lt_of_cell? W _ h9
              simpa [Addr.add] using this
            · have h10 := hc5 j (by have : j < l5 := hj; omega)
              rw [add_off] at h10
              exact h10
    obtain ⟨Z, hZ⟩ := choose_lt each
    refine ⟨hl, hm, Z, fun h0 => ?_⟩
    have h1 := (hZ 0 (by omega)).1 0 _ rfl
    have hspot : spot = none := by simpa [Addr.add] using World.cell?_spot h1
    subst hspot
    refine ⟨b, off, rfl, ?_, fun j hj => ?_⟩
    · have := World.block_lt_of_cell? W _ h1
      simpa [Addr.add] using this
    · obtain ⟨k1, k2, k3, k4, k5, k6⟩ := hZ j (by omega)
      refine ⟨fun i v hv => ?_, k2, k3, k4, k5, k6⟩
      have := k1 i v hv
      rw [add_off, ← Nat.add_assoc] at this
      exact this
end
end Go.Proofs.Ythkiajighmhdoaa
