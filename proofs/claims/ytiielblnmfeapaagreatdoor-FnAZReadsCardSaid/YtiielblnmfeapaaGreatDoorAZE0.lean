/-
  Strings and bytes of the decoder's (for getEncodedData). No condition beyond the bounds that the theorem states.
-/
import Derived.Test.YtiielblnmfeapaaGreatDoorAZD
import Derived.Test.YtiielblnmfeapaaGreatDoorGRD
import Derived.Laws.BytesArg
import Derived.Laws.IdiomStrings
namespace Go.Proofs.YtiielblnmfeapaaGreatDoor
open Go.RowKit Go.Qz
set_option linter.unusedVariables false

theorem Tryz.infoU8 : (Tryz.prog.info? 5).map (fun i => (i.zero, i.size, i.bytes)) = some (some (.int .u8 0), 1, 1) := by kernel_rfl

def bytesV (l : List Nat) : List Value := l.map fun x : Nat => Value.int .u8 x
def strB (l : List Nat) : ByteArray := ⟨(l.map UInt8.ofNat).toArray⟩
theorem strB_size (l : List Nat) : (strB l).size = l.length := by
  show (l.map UInt8.ofNat).toArray.size = _
  simp
theorem tn_ne5 {m : Nat} (h : m < 5) : (((tn m : Nat) : Int) == 5) = false := by
  have : m = 0 ∨ m = 1 ∨ m = 2 ∨ m = 3 ∨ m = 4 := by omega
  rcases this with rfl | rfl | rfl | rfl | rfl <;> rfl
theorem tn_3 {m : Nat} (h : m < 5) : (((tn m : Nat) : Int) == 3) = decide (m = 4) := by
  have : m = 0 ∨ m = 1 ∨ m = 2 ∨ m = 3 ∨ m = 4 := by omega
  rcases this with rfl | rfl | rfl | rfl | rfl <;> rfl
theorem nxt_lt {la sh : Nat} {m : Mi} {s : Nat × Nat} (h : Nxt la sh m s) (hla : la < 5) (hsh : sh < 6) : s.1 < 5 ∧ s.2 < 6 := by
  cases m with
  | ch c => obtain ⟨_, _, rfl⟩ := h; exact ⟨hla, by omega⟩
  | lat c => obtain ⟨m, h1, rfl⟩ := h; have := (lat_dts h1).2.2; exact ⟨this, by omega⟩
  | sh c => obtain ⟨m, h1, rfl⟩ := h; have := shTo_bd h1; exact ⟨by omega, this.2.2⟩
  | bytes b => obtain ⟨_, _, rfl⟩ := h; exact ⟨hla, by omega⟩

theorem range_bytes (l : List Nat) : (List.range l.length).map (fun j => Value.int .u8 (nth l j : Nat)) = bytesV l := by
  unfold bytesV
  apply List.ext_getElem
  · simp
  · intro i h1 h2
    have h3 : i < l.length := by simpa using h1
    simp [nth_eq h3]
theorem strNums (l : List Nat) : strOfNums ((List.range l.length).map fun j => ((nth l j : Nat) : Int)) = strB l := by
  unfold strOfNums strB
  congr 2
  apply List.ext_getElem
  · simp
  · intro i h1 h2
    have h3 : i < l.length := by simpa using h2
    simp [nth_eq h3]
set_option maxRecDepth 100000 in
/-- 'string(v)', v a row of the call's own. -/
theorem conv_own {w : World} {base n : Nat} {v : Value} {l : List Nat} (h : w.ownsRow base 5 1 v n (bytesV l)) (hl : ∀ x, x ∈ l → x < 256) :
    ∃ A c, v = .slice A n c ∧ (convert 22 9 (.slice A n c)).run Tryz.prog w = .ok (.string (strB l)) w := by
  obtain ⟨A, c, rfl, _, _, hrd⟩ := Rd.of_own h
  have hn : n = l.length := by have := h.1; simp [bytesV] at this; omega
  refine ⟨A, c, rfl, ?_⟩
  subst hn
  rcases Nat.eq_zero_or_pos l.length with h0 | h0
  · have : l = [] := List.eq_nil_of_length_eq_zero h0
    subst this
    rcases h.2 with ⟨e, _⟩ | ⟨g, cap, cur, e, _⟩
    · injection e with e _ _
      subst e
      exact run_convert_bytes_nil w 22 5 Tryz.underlying22 (by kernel_rfl) _ _ 9 (by kernel_rfl)
    · injection e with e _ _
      subst e
      exact run_convert_bytes_arg w 22 5 Tryz.underlying22 (by kernel_rfl) g 0 _ c [] rfl (fun i hi => absurd hi (by simp)) 9 (by kernel_rfl)
  · obtain ⟨b, off, rfl, _, hc⟩ := hrd h0
    have := run_convert_bytes_arg (P := Tryz.prog) w 22 5 Tryz.underlying22 (by kernel_rfl) b off l.length c ((List.range l.length).map fun j => ((nth l j : Nat) : Int)) (by simp) (fun i hi => by
      rw [hc i hi]; unfold bytesV
      simp [List.getD_eq_getElem?_getD, hi, nth_eq hi]) 9 (by kernel_rfl)
    rw [strNums] at this
    exact this
set_option maxRecDepth 100000 in
/-- '[]byte(s)'. -/
theorem conv_str (s : ByteArray) (l : List Nat) (hs : s = strB l) (hl : ∀ x, x ∈ l → x < 256) :
    ∃ (C : World → Nat) (X : World → World), (∀ W, (convert 9 22 (.string s)).run Tryz.prog W = .ok (.slice (some ⟨W.heap.size, 0, none⟩) s.size (C W)) (X W)) ∧ ∀ W, Below W.heap.size W (X W) ∧ Rd (X W) (some ⟨W.heap.size, 0, none⟩) s.size (fun j => .int .u8 (nth l j : Nat)) := by
  refine ⟨_, _, fun W => run_bytes_of_string W 9 22 5 s (by kernel_rfl) Tryz.underlying22 (by kernel_rfl), fun W => ⟨(Below.refl _ _).drew.alloc (Nat.le_refl _) _, fun h0 => ⟨W.heap.size, 0, rfl, by simp, fun j hj => ?_⟩⟩⟩
  rw [Nat.zero_add]
  show (W.drew.alloc _).cell? ⟨W.drew.heap.size, j, none⟩ = _
  rw [cell_of_row _ _ _ _ _ _ (heap_alloc_new W.drew _)]
  have hj2 : j < s.data.size := hj
  rw [bytesRow_at _ _ _ hj2]
  have hj3 : j < l.length := by rw [hs] at hj2; simpa [strB] using hj2
  have : s.data[j].toNat = nth l j := by
    subst hs
    simp only [strB, List.getElem_toArray, List.getElem_map, nth_eq hj3]
    have := hl _ (List.getElem_mem hj3)
    rw [UInt8.toNat_ofNat']; omega
  rw [this]

set_option maxRecDepth 100000 in
theorem idx5 (m l : Nat) (hm : m < 6) (hl : l = 76 ∨ l = 83) (W : World) : (Instr.index 9 (.string (ctrl m l)) (.int .i64 5)).run Tryz.prog W = .ok (.int .u8 (letter m : Nat)) W := by
  have h : m = 0 ∨ m = 1 ∨ m = 2 ∨ m = 3 ∨ m = 4 ∨ m = 5 := by omega
  rcases hl with rfl | rfl <;> rcases h with rfl | rfl | rfl | rfl | rfl | rfl <;> rfl
set_option maxRecDepth 100000 in
theorem idx6 (m l : Nat) (hm : m < 6) (hl : l = 76 ∨ l = 83) (W : World) : (Instr.index 9 (.string (ctrl m l)) (.int .i64 6)).run Tryz.prog W = .ok (.int .u8 (l : Nat)) W := by
  have h : m = 0 ∨ m = 1 ∨ m = 2 ∨ m = 3 ∨ m = 4 ∨ m = 5 := by omega
  rcases hl with rfl | rfl <;> rcases h with rfl | rfl | rfl | rfl | rfl | rfl <;> rfl
theorem ctrl_size (m l : Nat) : (ctrl m l).size = 7 := rfl
theorem ctrl_ne (m l : Nat) : ((ctrl m l).toList == [70, 76, 71, 40, 110, 41]) = false := by
  rw [beq_eq_false_iff_ne, ByteArray.toList_eq]
  intro h
  have h9 := congrArg List.length h
  rw [Array.length_toList] at h9
  have : (ctrl m l).data.size = 7 := rfl
  rw [this] at h9
  cases h9
end Go.Proofs.YtiielblnmfeapaaGreatDoor
