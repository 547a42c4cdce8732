
/-
  RSField, RSElement, RSElements, RSTidy, walked. No condition beyond the bounds that each theorem states.
-/
import Derived.Test.YtiielblnmfeapaaGFO
import Derived.Deep.RegionLaw
import Derived.BigRegion
namespace Go.Proofs.Ytiielblnmfeapaa
open Go.RowKit Go.Qz Go.Qz.RS
set_option linter.unusedVariables false

/-- A field, as a value. -/
def fv (F : Fld) : Value := .agg #[.int .i64 F.prim, .int .i64 F.size, .int .i64 F.base]

theorem tmod_neg (n m : Int) (hm : 0 < m) (hn : n < 0) : -m < n.tmod m ∧ n.tmod m ≤ 0 ∧ n % m = if n.tmod m < 0 then n.tmod m + m else n.tmod m := by
  have h1 : n.tmod m = -((-n) % m) := by
    have := Int.tmod_eq_emod_of_nonneg (a := -n) (b := m) (by omega)
    rw [Int.neg_tmod] at this; omega
  have h2 := Int.emod_nonneg (-n) (show m ≠ 0 by omega)
  have h3 := Int.emod_lt_of_pos (-n) hm
  have h4 : n % m = (n.tmod m) % m := by
    have h5 := Int.tmod_add_mul_tdiv n m
    have h6 : n % m = (n.tmod m + m * n.tdiv m) % m := by rw [h5]
    rw [h6, Int.add_mul_emod_self_left]
  refine ⟨by omega, by omega, ?_⟩
  split
  · rename_i hlt
    rw [h4]
    have h7 : (n.tmod m + m) % m = n.tmod m % m := Int.add_emod_right _ _
    rw [← h7]
    exact Int.emod_eq_of_lt (by omega) (by omega)
  · rename_i hge
    rw [h4]
    have : n.tmod m = 0 := by omega
    rw [this]; simp

/-- Numbers as elements, at most so many. -/
def elems (F : Fld) (z : Nat → Int) (k : Nat) : List Nat := (List.range k).map fun j => (z j % (F.size : Int)).toNat
theorem elems_succ (F : Fld) (z : Nat → Int) (k : Nat) : elems F z (k + 1) = elems F z k ++ [(z k % (F.size : Int)).toNat] := by simp [elems, List.range_succ]
theorem elems_length (F : Fld) (z : Nat → Int) (k : Nat) : (elems F z k).length = k := by simp [elems]
theorem elems_lt (F : Fld) (h : 4 ≤ F.size) (z : Nat → Int) (k : Nat) : ∀ x ∈ elems F z k, x < F.size := by
  intro x hx
  obtain ⟨j, _, rfl⟩ := List.mem_map.1 hx
  have := Int.emod_lt_of_pos (z j) (show (0 : Int) < (F.size : Int) by omega)
  have := Int.emod_nonneg (z j) (show (F.size : Int) ≠ 0 by omega)
  omega

/-- The numbers behind 'from'. -/
theorem tidy_split (l : List Nat) (hl : l ≠ []) : ∃ k, k < l.length ∧ (∀ j, j < k → nth l j = 0) ∧ (k + 1 = l.length ∨ nth l k ≠ 0) ∧ tidy l = l.drop k := by
  have key : ∀ n k, l.length - k = n → k < l.length → (∀ j, j < k → nth l j = 0) → ∃ k, k < l.length ∧ (∀ j, j < k → nth l j = 0) ∧ (k + 1 = l.length ∨ nth l k ≠ 0) ∧ tidy l = l.drop k := by
    intro n
    induction n with
    | zero => intro k h1 h2 _; omega
    | succ n ih =>
      intro k h1 h2 h3
      by_cases h : k + 1 = l.length ∨ nth l k ≠ 0
      · exact ⟨k, h2, h3, h, tidy_drop l k h2 h3 h⟩
      · have h4 : k + 1 < l.length := by omega
        have h5 : nth l k = 0 := by omega
        refine ih (k + 1) (by omega) h4 (fun j hj => ?_)
        by_cases hjk : j = k
        · rw [hjk]; exact h5
        · exact h3 j (by omega)
  have : 0 < l.length := List.length_pos_iff.2 hl
  exact key _ 0 rfl this (fun j hj => by omega)

theorem rd_drop {w : World} {l : List Nat} {k : Nat} {b off : Nat} (hc : ∀ j, j < l.length → w.cell? ⟨b, off + j, none⟩ = some (.int .i64 (nth l j : Nat))) (hb : b < w.heap.size) :
    Rd w (some ⟨b, off + k, none⟩) (l.length - k) (fun j => .int .i64 (nth (l.drop k) j : Nat)) := fun h0 =>
  ⟨b, off + k, rfl, hb, fun j hj => by
    have : nth (l.drop k) j = nth l (k + j) := by unfold nth; rw [List.getD_eq_getElem?_getD, List.getElem?_drop, List.getD_eq_getElem?_getD]
    dsimp only
    rw [this, Nat.add_assoc]
    exact hc (k + j) (by omega)⟩
theorem range_nth (l : List Nat) : (List.range l.length).map (fun j => Value.int .i64 ((nth l j : Nat) : Int)) = l.map fun x : Nat => Value.int .i64 (x : Int) := by
  apply List.ext_getElem
  · simp
  · intro i h1 h2
    simp at h1
    simp [nth_eq h1]

set_option maxRecDepth 100000 in
set_option maxHeartbeats 1600000 in
theorem rsTidy (l : List Nat) (hl : l ≠ []) (hn : l.length < 4294967296) (A : Option Addr) (c : Nat) (hc : l.length ≤ c) (w : World) (h : Rd w A l.length (fun j => .int .i64 (nth l j : Nat))) :
    Calls Try.prog 44 #[.slice A l.length c] w fun e w' => ∃ v, e = .returned v ∧ w'.ownsRow w.heap.size 3 1 v (tidy l).length ((tidy l).map fun x : Nat => Value.int .i64 (x : Int)) ∧ Below w.heap.size w w' := by
  obtain ⟨k0, hk0, hz, hor, ht⟩ := tidy_split l hl
  obtain ⟨b, off, rfl, hb, hcell⟩ := h (by omega)
  dsimp only at hcell
  have HZ := Lib.hid hz
  have HT := Lib.hid ht
  have HC := Lib.hid hcell
  have HOR := Lib.hid hor
  clear hz ht hcell h hor
  go_enter Try.func44, Try.ntmps44
  go_wp2_with fail
  go_loop [3] (fun i => ∃ k : Nat, k ≤ k0 ∧ i = .int .i64 k) (fun i => l.length - (intOf i).toNat)
  case atStart => exact ⟨0, by omega, rfl⟩
  case round =>
    obtain ⟨k, hk, rfl⟩ := hrel
    have hck := HC.out k (by omega)
    by_cases hlt : k < k0
    · rw [HZ.out k hlt] at hck
      go_wp2_with fail
      go_round
      case rel => exact ⟨k + 1, by omega, by go_num⟩
      case measure => simp [intOf]; omega
    · obtain rfl : k = k0 := by omega
      have hb0 : Below w.heap.size w (w.alloc (.cells #[] 3)) := (Below.refl _ _).alloc (Nat.le_refl _) _
      have hown := World.ownsRow_lit (e := 3) (size := 1) w #[] 0 (Nat.le_refl w.heap.size) (by unfold maxLen; omega) rfl
      have hrd := (rd_drop (k := k) HC.out hb).alloc (.cells #[] 3)
      have hle : (l.drop k).length = l.length - k := by simp
      have hrn := range_nth (l.drop k)
      rw [hle] at hrn
      have HRN := Lib.hid hrn
      have HLE := Lib.hid hle
      clear hrn hle
      by_cases he : k + 1 = l.length
      · have hg : ¬ ((k : Int) < (l.length : Int) - 1) := by omega
        have HE := Lib.hid he
        clear he
        go_wp2_with (at_builtin; refine wpList_copyTo _ _ 25 w.heap.size 3 (.int .i64 0) 8 _ 0 [] _ _ _ _ rfl rfl rfl rfl Try.underlying25 Try.infoInt rfl (fun j _ => rfl) (by decide) hown hrd (by omega) hb0.size ?_)
        intro v' w' hown' hg' hb'
        rw [HRN.out] at hown'
        have HO := Lib.hid hown'
        clear hown' hown hrd hck
        go_wp2_with fail
        go_ret
        exact ⟨_, rfl, by rw [HT.out, HLE.out]; exact HO.out, hb0.trans hb'⟩
      · have hnz : nth l k ≠ 0 := by have := HOR.out; omega
        have hg0 : (k : Int) < (l.length : Int) - 1 := by omega
        have hg : (((nth l k : Nat) : Int) == 0) = false := by simpa using (by omega : ((nth l k : Nat) : Int) ≠ 0)
        go_wp2_with (at_builtin; refine wpList_copyTo _ _ 25 w.heap.size 3 (.int .i64 0) 8 _ 0 [] _ _ _ _ rfl rfl rfl rfl Try.underlying25 Try.infoInt rfl (fun j _ => rfl) (by decide) hown hrd (by omega) hb0.size ?_)
        intro v' w' hown' hg' hb'
        rw [HRN.out] at hown'
        have HO := Lib.hid hown'
        clear hown' hown hrd hck
        go_wp2_with fail
        go_ret
        exact ⟨_, rfl, by rw [HT.out, HLE.out]; exact HO.out, hb0.trans hb'⟩

end Go.Proofs.Ytiielblnmfeapaa
