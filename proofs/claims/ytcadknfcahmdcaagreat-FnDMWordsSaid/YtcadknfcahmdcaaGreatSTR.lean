/-
  Strings as lists of numbers. No condition beyond the bounds that each theorem states.
-/
import Derived.Test.YtcadknfcahmdcaaGreatGRD
import Derived.Laws.BytesArg
import Derived.Laws.IdiomStrings
namespace Go.Qz
open Go.RowKit
set_option linter.unusedVariables false

/-- A string's bytes, and back. -/
def sb (s : ByteArray) : List Nat := s.data.toList.map (·.toNat)
def bs (l : List Nat) : ByteArray := ⟨(l.map UInt8.ofNat).toArray⟩
theorem sb_len (s : ByteArray) : (sb s).length = s.size := by
  show (s.data.toList.map (·.toNat)).length = s.data.size
  simp
theorem sb_lt (s : ByteArray) : ∀ x ∈ sb s, x < 256 := by
  intro x hx
  obtain ⟨b, _, rfl⟩ := List.mem_map.1 hx
  exact b.toNat_lt
theorem sb_at (s : ByteArray) (j : Nat) : nth (sb s) j < 256 := by
  by_cases h : j < (sb s).length
  · exact sb_lt s _ (nth_mem h)
  · unfold nth; rw [List.getD_eq_getElem?_getD, List.getElem?_eq_none (by omega)]; exact Nat.zero_lt_succ _
theorem bs_sb (s : ByteArray) : bs (sb s) = s := by
  cases s with | mk d =>
  unfold bs sb
  congr 1
  rw [List.map_map, show (UInt8.ofNat ∘ fun x : UInt8 => x.toNat) = id from by funext x; simp]
  simp
theorem bs_size (l : List Nat) : (bs l).size = l.length := by
  show (l.map UInt8.ofNat).toArray.size = _
  simp
theorem sb_bs (l : List Nat) (h : ∀ x ∈ l, x < 256) : sb (bs l) = l := by
  unfold bs sb
  simp only [List.map_map]
  have : ∀ l : List Nat, (∀ x ∈ l, x < 256) → l.map ((fun x : UInt8 => x.toNat) ∘ UInt8.ofNat) = l := by
    intro l h
    induction l with
    | nil => rfl
    | cons a r ih =>
      rw [List.map_cons, ih (fun x hx => h x (List.mem_cons_of_mem _ hx))]
      congr 1
      show (UInt8.ofNat a).toNat = a
      have := h a (by simp)
      rw [UInt8.toNat_ofNat']; omega
  exact this l h
theorem sb_append (a b : ByteArray) : sb (a ++ b) = sb a ++ sb b := by
  unfold sb
  rw [← List.map_append, ByteArray.data_append, Array.toList_append]
theorem str_at {P : Program} {t : TypeId} (ht : P.underlying t = some .string) (s : ByteArray) (i : Nat) (h : i < s.size) (W : World) : (Instr.index t (.string s) (.int .i64 i)).run P W = .ok (.int .u8 (nth (sb s) i : Nat)) W := by
  rw [run_index_string W t s .i64 i ht, dif_pos ⟨by omega, by omega⟩]
  congr 2
  have h2 : i < (sb s).length := by rw [sb_len]; exact h
  rw [nth_eq h2]
  have h3 : i < s.data.toList.length := by rw [Array.length_toList]; exact h
  have e : (sb s)[i] = (s.data.toList[i]).toNat := List.getElem_map (l := s.data.toList) (f := fun x : UInt8 => x.toNat) (i := i) (h := h2)
  rw [e]; rfl
theorem sb_drop (s : ByteArray) (a : Nat) : sb (s.extract a s.size) = (sb s).drop a := by
  have h : (s.extract a s.size).data = s.data.extract a s.size := by
    rw [ByteArray.data_extract]
  unfold sb
  rw [h, Array.toList_extract, List.extract_eq_take_drop, ← List.map_drop]
  congr 1
  apply List.take_of_length_le
  rw [List.length_drop]
  exact Nat.le_refl _
end Go.Qz
