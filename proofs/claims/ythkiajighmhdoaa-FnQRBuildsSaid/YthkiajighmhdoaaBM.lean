
/-
  BitMatrix: a pointer to its words, and what its functions do to it: NewBitMatrix, Set; impl.bools, GetRow, SetBulk. No condition beyond the bounds that each theorem states.
-/
import Derived.Test.YthkiajighmhdoaaBA
import Derived.Deep.RegionHeld3
import Derived.Deep.QuietTactic
import Derived.BigQuiet
import Derived.WideLaws
namespace Go.Proofs.Ythkiajighmhdoaa
open Go.RowKit Go.Qz
set_option linter.unusedVariables false

section
variable {w w' : World} {p g W H : Nat} {ws : List Nat}
end
/-- The module at a place. -/
def mb (ws : List Nat) (W x y : Nat) : Bool := (nth ws (y * ((W + 31) / 32) + x / 32)).testBit (x % 32)
theorem at_lt {W H x y : Nat} (hx : x < W) (hy : y < H) : y * ((W + 31) / 32) + x / 32 < (W + 31) / 32 * H := by
  have h1 : x / 32 < (W + 31) / 32 := by omega
  have h2 : (y + 1) * ((W + 31) / 32) ≤ H * ((W + 31) / 32) := Nat.mul_le_mul_right _ hy
  rw [Nat.mul_comm _ H]
  rw [Nat.add_mul, Nat.one_mul] at h2
  omega
theorem at_inj {W x y x' y' : Nat} (hx : x < W) (hx' : x' < W) (h : y * ((W + 31) / 32) + x / 32 = y' * ((W + 31) / 32) + x' / 32) : y = y' ∧ x / 32 = x' / 32 := by
  have h1 : x / 32 < (W + 31) / 32 := by omega
  have h2 : x' / 32 < (W + 31) / 32 := by omega
  generalize (W + 31) / 32 = R at *
  have h3 : y = y' := by
    rcases Nat.lt_trichotomy y y' with a | a | a
    · have := Nat.mul_le_mul_right R (show y + 1 ≤ y' from a)
      rw [Nat.add_mul, Nat.one_mul] at this; omega
    · exact a
    · have := Nat.mul_le_mul_right R (show y' + 1 ≤ y from a)
      rw [Nat.add_mul, Nat.one_mul] at this; omega
  subst h3
  exact ⟨rfl, by omega⟩
theorem mb_zeros (m W x y : Nat) : mb (List.replicate m 0) W x y = false := by
  unfold mb
  rw [nth_replicate]
  split <;> simp
theorem mb_set (ws : List Nat) (W H x y i j : Nat) (hlen : ws.length = (W + 31) / 32 * H) (hi : i < W) (hj : j < H) (hx : x < W) :
    mb (ws.set (j * ((W + 31) / 32) + i / 32) (nth ws (j * ((W + 31) / 32) + i / 32) ||| 2 ^ (i % 32))) W x y = (mb ws W x y || decide (x = i ∧ y = j)) := by
  unfold mb
  rw [nth_set (by rw [hlen]; exact at_lt hi hj)]
  by_cases h : y * ((W + 31) / 32) + x / 32 = j * ((W + 31) / 32) + i / 32
  · obtain ⟨h1, h2⟩ := at_inj hx hi h
    rw [if_pos h, h, Nat.testBit_or, Nat.testBit_two_pow]
    congr 1
    rw [Bool.eq_iff_iff]
    simp only [decide_eq_true_eq]
    omega
  · rw [if_neg h]
    have : ¬ (x = i ∧ y = j) := by rintro ⟨rfl, rfl⟩; exact h rfl
    simp [this]

theorem Try.infoBool' : (Try.prog.info? 4).map (fun i => (i.zero, i.size, i.bytes)) = some (some (.bool false), 1, 1) := by kernel_rfl
/-- A list of bools that is made from the front. -/
def upB (n : Nat) (g : Nat → Bool) (i : Nat) : List Bool := (List.range n).map fun j => decide (j < i) && g j
/-- Block b is just these bools. -/
def BL (w : World) (b : Nat) (l : List Bool) : Prop := Arr w 4 b (l.map Value.bool)
theorem BL.arr {w : World} {b : Nat} {l : List Bool} (h : BL w b l) : Arr w 4 b (l.map Value.bool) := h
theorem BL.cell {w : World} {b n i j : Nat} {g : Nat → Bool} (h : BL w b (upB n g i)) (hj : j < n) : w.cell? ⟨b, j, none⟩ = some (.bool (decide (j < i) && g j)) := by
  rw [h.arr.cell?]; simp [upB, hj]
theorem BL.set_ {w : World} {b n i : Nat} {g : Nat → Bool} (h : BL w b (upB n g i)) : BL (w.setCell ⟨b, i, none⟩ (.bool (g i))) b (upB n g (i + 1)) := by
  have h2 := h.arr.set_ i (.bool (g i))
  have e : ((upB n g i).map Value.bool).set i (.bool (g i)) = (upB n g (i + 1)).map Value.bool := by
    apply List.ext_getElem (by simp [upB])
    intro j h1 h2
    simp only [upB, List.getElem_set, List.getElem_map, List.getElem_range]
    by_cases e : i = j
    · subst e; simp
    · rw [if_neg e]
      congr 2
      rw [Bool.eq_iff_iff]; simp; omega
  rw [e] at h2
  exact h2
theorem BL.zeros (w : World) (n : Nat) (g : Nat → Bool) : BL (w.alloc (.cells (zeros n (.bool false)) 4)) w.heap.size (upB n g 0) := by
  have := Arr.new w 4 (List.replicate n (Value.bool false))
  have e : (upB n g 0).map Value.bool = List.replicate n (Value.bool false) := by
    apply List.ext_getElem (by simp [upB])
    intro j h1 h2
    simp [upB]
  unfold BL
  rw [e]; exact this
theorem BL.rd {w : World} {b n : Nat} {g : Nat → Bool} (h : BL w b (upB n g n)) : Rd w (some ⟨b, 0, none⟩) n (fun j => .bool (g j)) := fun h0 => by
  refine ⟨b, 0, rfl, h.arr.lt, fun j hj => ?_⟩
  rw [Nat.zero_add, h.cell hj]
  simp [hj]
theorem BL.len (n : Nat) (g : Nat → Bool) (i : Nat) : (upB n g i).length = n := by simp [upB]

/-- What was read from the first words of a row. -/
def rowOf (ws : List Nat) (R y k : Nat) : List Nat := (List.range R).map fun j => if j < k then nth ws (y * R + j) else 0
theorem rowOf_set (ws : List Nat) (R y k : Nat) : (rowOf ws R y k).set k (nth ws (y * R + k)) = rowOf ws R y (k + 1) := by
  apply List.ext_getElem (by simp [rowOf])
  intro j h1 h2
  simp only [rowOf, List.getElem_set, List.getElem_map, List.getElem_range]
  by_cases e : k = j
  · subst e; rw [if_pos rfl, if_pos (by omega)]
  · rw [if_neg e]
    by_cases h : j < k
    · rw [if_pos h, if_pos (by omega)]
    · rw [if_neg h, if_neg (by omega)]
theorem rowOf_zero (ws : List Nat) (R y : Nat) : rowOf ws R y 0 = List.replicate R 0 := by
  apply List.ext_getElem (by simp [rowOf])
  intro j h1 h2
  simp [rowOf]
theorem rowOf_bit (ws : List Nat) (W y x : Nat) (hx : x < W) : bit (rowOf ws ((W + 31) / 32) y ((W + 31) / 32)) x = mb ws W x y := by
  unfold bit mb rowOf
  rw [nth_map_range _ _ _ (by omega), if_pos (by omega)]

end Go.Proofs.Ythkiajighmhdoaa
