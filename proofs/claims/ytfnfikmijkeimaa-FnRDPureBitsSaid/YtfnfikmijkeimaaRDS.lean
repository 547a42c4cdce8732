/-
  FnRDPureBits with its arguments as they come in; an array of five integers by value. No condition.
-/
import Derived.Test.YtfnfikmijkeimaaRDR
import Derived.Test.YtfnfikmijkeimaaARR
namespace Go.Qz
open Go.RowKit Go.ChangeShapes
variable {H : Type} {enc : TypeId × Value → H} {P : Program} {W : World} {base : Nat} {spare : Nat → Bool} {held : Bool}
theorem arr5_ints {t e : TypeId} {k : IntKind} {r : Reach} {b0 : Nat} {v : Value} {d : DataW H} {p : List MemPlace} (ht : P.underlying t = some (.array 5 e)) (he : P.underlying e = some (.int k)) (hc : P.cellsOf e = 1) (hct : P.cellsOf t = 5)
    (hval : Value.okWide P W r b0 t v) (hd : DataW.Trod enc P W base spare held t v d p) : ∃ z0 z1 z2 z3 z4 : Int, v = .agg #[.int k z0, .int k z1, .int k z2, .int k z3, .int k z4] ∧ (Lit.int k z0).wf = true ∧ (Lit.int k z1).wf = true ∧ (Lit.int k z2).wf = true ∧ (Lit.int k z3).wf = true ∧ (Lit.int k z4).wf = true := by
  obtain ⟨cs, rfl, hsz, hall⟩ := arr_ints ht he hc hct hval hd
  obtain ⟨z0, h0, w0⟩ := hall 0 (by omega)
  obtain ⟨z1, h1, w1⟩ := hall 1 (by omega)
  obtain ⟨z2, h2, w2⟩ := hall 2 (by omega)
  obtain ⟨z3, h3, w3⟩ := hall 3 (by omega)
  obtain ⟨z4, h4, w4⟩ := hall 4 (by omega)
  refine ⟨z0, z1, z2, z3, z4, ?_, w0, w1, w2, w3, w4⟩
  congr 1
  apply Array.ext_getElem?
  intro i
  by_cases hi : i < 5
  · have : i = 0 ∨ i = 1 ∨ i = 2 ∨ i = 3 ∨ i = 4 := by omega
    rcases this with rfl | rfl | rfl | rfl | rfl
    · rw [h0]; rfl
    · rw [h1]; rfl
    · rw [h2]; rfl
    · rw [h3]; rfl
    · rw [h4]; rfl
  · rw [Array.getElem?_eq_none (by omega), Array.getElem?_eq_none (by simp; omega)]
end Go.Qz
namespace Go.Proofs.Ytfnfikmijkeimaa
open Go.RowKit Go.Qz
theorem fnRDPureBitsW (w : World) (A : Option Addr) (n c : Nat) (z : Nat → Int) (hnc : n ≤ c) (hcm : c ≤ maxLen) (hz : ∀ j, j < n → (Lit.int .u8 (z j)).wf = true) (h : Rd w A n (fun j => .int .u8 (z j)))
    (q : Int) (hq : (Lit.int .u8 q).wf = true) (x0 : Int) (h0 : (Lit.int .u8 x0).wf = true) (x1 : Int) (h1 : (Lit.int .u8 x1).wf = true) (x2 : Int) (h2 : (Lit.int .u8 x2).wf = true) (x3 : Int) (h3 : (Lit.int .u8 x3).wf = true) (x4 : Int) (h4 : (Lit.int .u8 x4).wf = true) :
    Calls Try.prog 3 #[.slice A n c, .int .u8 q, .agg #[.int .u8 x0, .int .u8 x1, .int .u8 x2, .int .u8 x3, .int .u8 x4]] w fun e w' => e = .returned (.bool true) ∧ Below w.heap.size w w' := by
  have bq := bd_u8 hq
  have b0 := bd_u8 h0
  have b1 := bd_u8 h1
  have b2 := bd_u8 h2
  have b3 := bd_u8 h3
  have b4 := bd_u8 h4
  obtain ⟨m, rfl⟩ : ∃ m : Nat, q = m := ⟨q.toNat, by omega⟩
  obtain ⟨y0, rfl⟩ : ∃ m : Nat, x0 = m := ⟨x0.toNat, by omega⟩
  obtain ⟨y1, rfl⟩ : ∃ m : Nat, x1 = m := ⟨x1.toNat, by omega⟩
  obtain ⟨y2, rfl⟩ : ∃ m : Nat, x2 = m := ⟨x2.toNat, by omega⟩
  obtain ⟨y3, rfl⟩ : ∃ m : Nat, x3 = m := ⟨x3.toNat, by omega⟩
  obtain ⟨y4, rfl⟩ : ∃ m : Nat, x4 = m := ⟨x4.toNat, by omega⟩
  refine (fnRDPureBits n c hnc hcm (fun j => if j < n then (z j).toNat else 0) (fun j => ?_) m (by omega) (fun i => if i = 0 then y0 else if i = 1 then y1 else if i = 2 then y2 else if i = 3 then y3 else if i = 4 then y4 else 0) (fun i => ?_) A _ rfl w (h.congr fun j hj => ?_)).mono fun e w' he => he
  · split
    · rename_i hj; have := bd_u8 (hz j hj); omega
    · omega
  · repeat' split
    all_goals omega
  · rw [if_pos hj]
    have := bd_u8 (hz j hj)
    congr 1
    omega
end Go.Proofs.Ytfnfikmijkeimaa
