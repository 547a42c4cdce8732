
/-
  BitArray: a pointer to its words, and what its functions do to it: NewBitArray, Set, Get, GetSize, and impl.array. No condition beyond the bounds that each theorem states.
-/
import Derived.Test.YthnepajhiialpaaDoorRows
import Derived.Test.YthnepajhiialpaaDoorBase
namespace Go.Proofs.YthnepajhiialpaaDoor
open Go.RowKit Go.Qz
set_option linter.unusedVariables false

section
variable {w w' : World} {p g n : Nat} {ws : List Nat}
end

theorem u32_pow (r : Nat) (h : r < 32) : IntKind.u32.wrap (2 ^ r) = ((2 ^ r : Nat) : Int) := by
  have h1 : 2 ^ r ≤ 2 ^ 31 := Nat.pow_le_pow_right (by omega) (by omega)
  rw [IntKind.wrap_u32]
  have h2 : ((2 ^ r : Nat) : Int) = (2 : Int) ^ r := by simp
  rw [← h2]
  generalize 2 ^ r = x at *
  omega
theorem u32_ofInt (a : Nat) (ha : a < 4294967296) : (BitVec.ofInt 32 (a : Int)).toNat = a := by
  rw [BitVec.ofInt_natCast, BitVec.toNat_ofNat]; exact Nat.mod_eq_of_lt (by omega)
theorem u32_or (a b : Nat) (ha : a < 4294967296) (hb : b < 4294967296) : bits .or .u32 (a : Int) (b : Int) = ((a ||| b : Nat) : Int) := by
  have hx : a ||| b < 2 ^ 32 := Nat.or_lt_two_pow (by omega) (by omega)
  show IntKind.u32.wrap ((BitVec.ofInt 32 (a : Int) ||| BitVec.ofInt 32 (b : Int)).toNat : Int) = _
  rw [BitVec.toNat_or, u32_ofInt a ha, u32_ofInt b hb, IntKind.wrap_u32]
  omega
theorem u32_and (a b : Nat) (ha : a < 4294967296) (hb : b < 4294967296) : bits .and .u32 (a : Int) (b : Int) = ((a &&& b : Nat) : Int) := by
  have hx : a &&& b < 2 ^ 32 := Nat.and_lt_two_pow _ (by omega)
  show IntKind.u32.wrap ((BitVec.ofInt 32 (a : Int) &&& BitVec.ofInt 32 (b : Int)).toNat : Int) = _
  rw [BitVec.toNat_and, u32_ofInt a ha, u32_ofInt b hb, IntKind.wrap_u32]
  omega
theorem u32_xor (a b : Nat) (ha : a < 4294967296) (hb : b < 4294967296) : bits .xor .u32 (a : Int) (b : Int) = ((a ^^^ b : Nat) : Int) := by
  have hx : a ^^^ b < 2 ^ 32 := Nat.xor_lt_two_pow (by omega) (by omega)
  show IntKind.u32.wrap ((BitVec.ofInt 32 (a : Int) ^^^ BitVec.ofInt 32 (b : Int)).toNat : Int) = _
  rw [BitVec.toNat_xor, u32_ofInt a ha, u32_ofInt b hb, IntKind.wrap_u32]
  omega

/-- The i-th bit of words. -/
def bit (ws : List Nat) (i : Nat) : Bool := (nth ws (i / 32)).testBit (i % 32)

theorem and_pow_ne (x r : Nat) : (((x &&& 2 ^ r : Nat) : Int) != 0) = x.testBit r := by
  cases h : x.testBit r
  · have h0 : x &&& 2 ^ r = 0 := by
      apply Nat.eq_of_testBit_eq
      intro i
      rw [Nat.testBit_and, Nat.testBit_two_pow, Nat.zero_testBit]
      by_cases hi : r = i
      · subst hi; simp [h]
      · simp [hi]
    rw [h0]; rfl
  · rw [bne_iff_ne]
    intro h0
    have h1 : x &&& 2 ^ r = 0 := by omega
    have h2 : (x &&& 2 ^ r).testBit r = true := by rw [Nat.testBit_and, Nat.testBit_two_pow_self, h]; rfl
    rw [h1, Nat.zero_testBit] at h2
    cases h2

theorem Tryd.infoU32 : (Tryd.prog.info? 116).map (fun i => (i.zero, i.size, i.bytes)) = some (some (.int .u32 0), 1, 4) := by kernel_rfl

theorem bit_zeros (m i : Nat) : bit (List.replicate m 0) i = false := by
  unfold bit nth
  rw [List.getD_eq_getElem?_getD, List.getElem?_replicate]
  split <;> simp
theorem bit_set (ws : List Nat) (i j : Nat) (hi : i / 32 < ws.length) : bit (ws.set (i / 32) (nth ws (i / 32) ||| 2 ^ (i % 32))) j = (bit ws j || decide (j = i)) := by
  unfold bit
  by_cases hq : j / 32 = i / 32
  · rw [hq]
    have e : nth (ws.set (i / 32) (nth ws (i / 32) ||| 2 ^ (i % 32))) (i / 32) = nth ws (i / 32) ||| 2 ^ (i % 32) := by
      conv => lhs; unfold nth
      rw [List.getD_eq_getElem?_getD, List.getElem?_set_self hi]; rfl
    rw [e, Nat.testBit_or, Nat.testBit_two_pow]
    congr 1
    rw [Bool.eq_iff_iff]; simp; omega
  · have e : nth (ws.set (i / 32) (nth ws (i / 32) ||| 2 ^ (i % 32))) (j / 32) = nth ws (j / 32) := by
      unfold nth
      rw [List.getD_eq_getElem?_getD, List.getElem?_set_ne (by omega), List.getD_eq_getElem?_getD]
    rw [e]
    have : j ≠ i := by intro h; exact hq (by rw [h])
    simp [this]

end Go.Proofs.YthnepajhiialpaaDoor
