/-
  The decoder of words of ASCII and X12, walked whole. No condition beyond the bounds that each theorem states.
-/
import Derived.Test.YthnepajhiialpaaDoorDAE
import Derived.Test.YthnepajhiialpaaDoorDCR
import Derived.MapKept
namespace Go.Proofs.YthnepajhiialpaaDoor
open Go.RowKit Go.Qz Go.Qz.BS Go.Qz.DW
set_option linter.unusedVariables false

/-- A map that is empty. -/
def Emp (w : World) (b : Nat) : Prop := w.heap[b]? = some (.map #[] 0)
theorem Emp.lt {w : World} {b : Nat} (h : Emp w b) : b < w.heap.size := (Array.getElem?_eq_some_iff.1 h).1
theorem Emp.mod {S : Nat → Prop} {w w' : World} {b : Nat} (h : Emp w b) (hm : Mod S w w') (hb : ¬ S b) : Emp w' b := (hm.block b h.lt hb).trans h
theorem run_lookup_emp {P : Program} {w : World} {t k e : TypeId} {q : IntKind} (ht : P.underlying t = some (.map k e)) (hk : P.underlying k = some (.int q)) {z : Value} (hz : (zeroValue e).run P w = .ok z w) {b : Nat} (hb : Emp w b) (i : Int) :
    (Instr.lookup t (.map (some b)) (.int q i) true).run P w = .ok (.tuple #[z, .bool false]) w := by
  have h1 : Instr.findNow (.int q) (.int q i) [] 0 = some none := rfl
  simp [Instr.lookup, run_underlying ht, MapKept.run_getObj_map hb, MapKept.run_checkKey hk (k := .int q i) (by trivial), MapKept.run_findKey hk h1, hz, Result.andThen]
set_option maxRecDepth 100000 in
theorem contains (b : Nat) (i : Int) (w : World) (h : Emp w b) :
    Calls Tryd.prog 38 #[.map (some b), .int .i64 i] w fun e w' => e = .returned (.bool false) ∧ Below w.heap.size w w' := by
  have hl := run_lookup_emp (P := Tryd.prog) Tryd.underlying63 Tryd.underlying3 (z := .agg #[]) (w := w) (by kernel_rfl) h i
  go_enter Tryd.func38, Tryd.ntmps38
  go_wp2_with fail
  go_ret
  exact ⟨rfl, (Below.refl _ _).alloc (Nat.le_refl _) _⟩
def ResP (A : Option Addr) (n k : Nat) (text : ByteArray) (w : World) (e : Ending) (w' : World) : Prop := ∃ p nb, e = .returned (.pointer (some ⟨p, 0, none⟩)) ∧ Hid (DR w' p (.slice A n k) nb text (.slice none 0 0) ⟨#[]⟩ 0 0 .nilIface (-1) (-1) 1) ∧ Hid (Below w.heap.size w w')
set_option maxRecDepth 100000 in
theorem resNewP (A : Option Addr) (n k : Nat) (hn : n < 1000000) (text : ByteArray) (w : World) :
    Calls Tryd.prog 57 #[.slice A n k, .string text, .slice none 0 0, .string ⟨#[]⟩, .int .i64 (-1), .int .i64 (-1), .int .i64 1] w (ResP A n k text w) := by
  go_enter Tryd.func57, Tryd.ntmps57
  go_wp2_with fail
  go_ret
  exact ⟨_, _, rfl, Lib.hid ⟨Arr.new _ _ _⟩, Lib.hid ((Below.refl _ _).alloc (Nat.le_refl _) _)⟩
set_option maxRecDepth 100000 in
theorem resNewS (A : Option Addr) (n k : Nat) (hn : n < 1000000) (text : ByteArray) (w : World) :
    Calls Tryd.prog 39 #[.slice A n k, .string text, .slice none 0 0, .string ⟨#[]⟩, .int .i64 1] w (ResP A n k text w) := by
  have H := Lib.hid (resNewP A n k hn text w)
  go_enter Tryd.func39, Tryd.ntmps39
  go_wp2_with fail
  refine H.out.mono ?_
  rintro e w1 ⟨p, nb, rfl, h1, h2⟩
  go_wp2_with fail
  go_ret
  exact ⟨p, nb, rfl, h1, h2⟩
set_option maxRecDepth 100000 in
theorem srcNew (A : Option Addr) (n c : Nat) (w : World) :
    Calls Tryd.prog 29 #[.slice A n c] w fun e w' => e = .returned (.pointer (some ⟨w.heap.size, 0, none⟩)) ∧ SrcAt w' w.heap.size A n c 0 0 ∧ Below w.heap.size w w' ∧ w.heap.size < w'.heap.size := by
  go_enter Tryd.func29, Tryd.ntmps29
  go_wp2_with fail
  go_ret
  exact ⟨rfl, Arr.new _ _ _, (Below.refl _ _).alloc (Nat.le_refl _) _, by simp⟩
set_option maxRecDepth 100000 in
/-- 'string(v)', v a row of the call's own. -/
theorem conv_ownB {w : World} {base n : Nat} {v : Value} {l : List Nat} (h : w.ownsRow base 5 1 v n (bl l)) (hl : ∀ x, x ∈ l → x < 256) :
    ∃ A c, v = .slice A n c ∧ (convert 27 9 (.slice A n c)).run Tryd.prog w = .ok (.string (bs l)) w := by
  obtain ⟨A, c, rfl, _, _, hrd⟩ := Rd.of_own h
  have hn : n = l.length := by have := h.1; simp [bl] at this; omega
  refine ⟨A, c, rfl, ?_⟩
  subst hn
  have hnum : strOfNums ((List.range l.length).map fun j => ((nth l j : Nat) : Int)) = bs l := by
    unfold strOfNums bs
    congr 2
    apply List.ext_getElem
    · simp
    · intro i h1 h2
      have h3 : i < l.length := by simpa using h2
      simp [nth_eq h3]
  rcases Nat.eq_zero_or_pos l.length with h0 | h0
  · have : l = [] := List.eq_nil_of_length_eq_zero h0
    subst this
    rcases h.2 with ⟨e, _⟩ | ⟨g, cap, cur, e, _⟩
    · injection e with e _ _
      subst e
      exact run_convert_bytes_nil w 27 5 Tryd.underlying27 (by kernel_rfl) _ _ 9 (by kernel_rfl)
    · injection e with e _ _
      subst e
      exact run_convert_bytes_arg w 27 5 Tryd.underlying27 (by kernel_rfl) g 0 _ c [] rfl (fun i hi => absurd hi (by simp)) 9 (by kernel_rfl)
  · obtain ⟨b, off, rfl, _, hc⟩ := hrd h0
    have := run_convert_bytes_arg (P := Tryd.prog) w 27 5 Tryd.underlying27 (by kernel_rfl) b off l.length c ((List.range l.length).map fun j => ((nth l j : Nat) : Int)) (by simp) (fun i hi => by
      rw [hc i hi]; unfold bl
      simp [List.getD_eq_getElem?_getD, hi, nth_eq hi]) 9 (by kernel_rfl)
    rw [hnum] at this
    exact this
end Go.Proofs.YthnepajhiialpaaDoor
