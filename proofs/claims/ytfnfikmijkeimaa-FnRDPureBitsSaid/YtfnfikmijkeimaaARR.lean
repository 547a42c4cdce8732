/-
  Arrays of integers by value, opened. No condition.
-/
import Derived.Test.YtfnfikmijkeimaaBase
namespace Go.Qz
open Go.RowKit Go.ChangeShapes
variable {H : Type} {enc : TypeId × Value → H} {P : Program} {W : World} {base : Nat} {spare : Nat → Bool} {held : Bool}

theorem arr_ints {n : Nat} {t e : TypeId} {k : IntKind} {r : Reach} {b0 : Nat} {v : Value} {d : DataW H} {p : List MemPlace} (ht : P.underlying t = some (.array n e)) (he : P.underlying e = some (.int k)) (hc : P.cellsOf e = 1) (hct : P.cellsOf t = n)
    (hval : Value.okWide P W r b0 t v) (hd : DataW.Trod enc P W base spare held t v d p) : ∃ cs : Array Value, v = .agg cs ∧ cs.size = n ∧ ∀ j, j < n → ∃ z : Int, cs[j]? = some (.int k z) ∧ (Lit.int k z).wf = true := by
  simp only [Value.okWide, ht] at hval
  obtain ⟨cs, rfl, hsz, _⟩ := hval
  rw [hct] at hsz
  refine ⟨cs, rfl, hsz, fun j hj => ?_⟩
  obtain ⟨fuel, hf⟩ := hd
  obtain ⟨xs, m, _, _, hl, hx, hall⟩ := DataW.trod_array ht hf
  have h1 := hall j hj
  rw [hc, Nat.mul_one, List.getElem?_eq_getElem (by omega)] at h1
  have hcs : ((Value.agg cs).cells.toList.drop j).take 1 = [cs[j]'(by omega)] := by
    simp only [Value.cells]
    rw [List.drop_eq_getElem_cons (by simpa using (by omega : j < cs.size))]
    simp
  rw [hcs] at h1
  obtain ⟨z, hz, _, hw⟩ := DataW.trod_int he h1
  refine ⟨z, ?_, hw⟩
  rw [Array.getElem?_eq_getElem (by omega)]
  simpa using hz
theorem arr4_ints {t e : TypeId} {k : IntKind} {r : Reach} {b0 : Nat} {v : Value} {d : DataW H} {p : List MemPlace} (ht : P.underlying t = some (.array 4 e)) (he : P.underlying e = some (.int k)) (hc : P.cellsOf e = 1) (hct : P.cellsOf t = 4)
    (hval : Value.okWide P W r b0 t v) (hd : DataW.Trod enc P W base spare held t v d p) : ∃ z0 z1 z2 z3 : Int, v = .agg #[.int k z0, .int k z1, .int k z2, .int k z3] ∧ (Lit.int k z0).wf = true ∧ (Lit.int k z1).wf = true ∧ (Lit.int k z2).wf = true ∧ (Lit.int k z3).wf = true := by
  obtain ⟨cs, rfl, hsz, hall⟩ := arr_ints ht he hc hct hval hd
  obtain ⟨z0, h0, w0⟩ := hall 0 (by omega)
  obtain ⟨z1, h1, w1⟩ := hall 1 (by omega)
  obtain ⟨z2, h2, w2⟩ := hall 2 (by omega)
  obtain ⟨z3, h3, w3⟩ := hall 3 (by omega)
  refine ⟨z0, z1, z2, z3, ?_, w0, w1, w2, w3⟩
  congr 1
  apply Array.ext_getElem?
  intro i
  by_cases hi : i < 4
  · have : i = 0 ∨ i = 1 ∨ i = 2 ∨ i = 3 := by omega
    rcases this with rfl | rfl | rfl | rfl
    · rw [h0]; rfl
    · rw [h1]; rfl
    · rw [h2]; rfl
    · rw [h3]; rfl
  · rw [Array.getElem?_eq_none (by omega), Array.getElem?_eq_none (by simp; omega)]
theorem arr3_ints {t e : TypeId} {k : IntKind} {r : Reach} {b0 : Nat} {v : Value} {d : DataW H} {p : List MemPlace} (ht : P.underlying t = some (.array 3 e)) (he : P.underlying e = some (.int k)) (hc : P.cellsOf e = 1) (hct : P.cellsOf t = 3)
    (hval : Value.okWide P W r b0 t v) (hd : DataW.Trod enc P W base spare held t v d p) : ∃ z0 z1 z2 : Int, v = .agg #[.int k z0, .int k z1, .int k z2] ∧ (Lit.int k z0).wf = true ∧ (Lit.int k z1).wf = true ∧ (Lit.int k z2).wf = true := by
  obtain ⟨cs, rfl, hsz, hall⟩ := arr_ints ht he hc hct hval hd
  obtain ⟨z0, h0, w0⟩ := hall 0 (by omega)
  obtain ⟨z1, h1, w1⟩ := hall 1 (by omega)
  obtain ⟨z2, h2, w2⟩ := hall 2 (by omega)
  refine ⟨z0, z1, z2, ?_, w0, w1, w2⟩
  congr 1
  apply Array.ext_getElem?
  intro i
  by_cases hi : i < 3
  · have : i = 0 ∨ i = 1 ∨ i = 2 := by omega
    rcases this with rfl | rfl | rfl
    · rw [h0]; rfl
    · rw [h1]; rfl
    · rw [h2]; rfl
  · rw [Array.getElem?_eq_none (by omega), Array.getElem?_eq_none (by simp; omega)]
end Go.Qz
