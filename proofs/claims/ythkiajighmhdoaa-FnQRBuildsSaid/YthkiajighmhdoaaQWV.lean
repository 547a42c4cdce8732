/-
  What versionOf lays in memory: middles, groups of blocks; NewVersion over it. No condition beyond the bounds that each theorem states.
-/
import Derived.Test.YthkiajighmhdoaaQV
import Derived.Test.YthkiajighmhdoaaQWT
import Derived.Test.YthkiajighmhdoaaCPM
namespace Go.Proofs.Ythkiajighmhdoaa
open Go.RowKit Go.Qz Go.Qz.QW
set_option linter.unusedVariables false

def addObjs (w : World) (l : List Obj) : World := l.foldl World.alloc w
theorem addObjs_heap : ∀ (l : List Obj) (w : World), (addObjs w l).heap = w.heap ++ l.toArray
  | [], w => by simp [addObjs]
  | o :: l, w => by
    have h := addObjs_heap l (w.alloc o)
    show (addObjs (w.alloc o) l).heap = _
    have h2 : (w.alloc o).heap = w.heap.push o := rfl
    rw [h, h2]
    simp
theorem addObjs_below (B : Nat) : ∀ (l : List Obj) (w w0 : World), B ≤ w.heap.size → Below B w0 w → Below B w0 (addObjs w l)
  | [], w, w0, _, h => h
  | o :: l, w, w0, hB, h => addObjs_below B l (w.alloc o) w0 (by simp; omega) (h.alloc hB _)
/-- A group, written out. -/
def flat (l : List (Nat × Nat)) : List Value := l.flatMap fun x => [.int .i64 (x.1 : Nat), .int .i64 (x.2 : Nat)]
theorem flat_get : ∀ (l : List (Nat × Nat)) (j : Nat), j < l.length → (flat l)[j * 2]? = some (.int .i64 ((l.getD j (0, 0)).1 : Nat)) ∧ (flat l)[j * 2 + 1]? = some (.int .i64 ((l.getD j (0, 0)).2 : Nat))
  | [], j, h => by simp at h
  | x :: l, 0, h => by simp [flat]
  | x :: l, j + 1, h => by
    have := flat_get l j (by simpa using h)
    have e1 : (j + 1) * 2 = j * 2 + 1 + 1 := by omega
    rw [e1]
    simpa [flat] using this
/-- The four levels, written out. -/
def ecs (s n : Nat) : List Value := (List.range 4).flatMap fun i => [.int .i64 (ecOf n (lvAt i) : Nat), .slice (some ⟨s + 1 + i, 0, none⟩) (grOf n (lvAt i)).length (grOf n (lvAt i)).length]
theorem ecs_get (s n i : Nat) (h : i < 4) : (ecs s n)[2 * i]? = some (.int .i64 (ecOf n (lvAt i) : Nat)) ∧ (ecs s n)[2 * i + 1]? = some (.slice (some ⟨s + 1 + i, 0, none⟩) (grOf n (lvAt i)).length (grOf n (lvAt i)).length) := by
  have : i = 0 ∨ i = 1 ∨ i = 2 ∨ i = 3 := by omega
  rcases this with rfl | rfl | rfl | rfl <;> exact ⟨rfl, rfl⟩
def cenV (n : Nat) : List Value := (cenOf n).map fun x : Nat => .int .i64 x
def verObjs (s n : Nat) : List Obj :=
  [.cells (cenV n).toArray 3, .cells (flat (grOf n (lvAt 0))).toArray 139, .cells (flat (grOf n (lvAt 1))).toArray 139, .cells (flat (grOf n (lvAt 2))).toArray 139, .cells (flat (grOf n (lvAt 3))).toArray 139, .cells (ecs s n).toArray 142]
/-- What a version's blocks hold. -/
structure VerBlk (w : World) (s n : Nat) : Prop where
  cen : Arr w 3 s (cenV n)
  gr : ∀ i, i < 4 → Arr w 139 (s + 1 + i) (flat (grOf n (lvAt i)))
  ec : Arr w 142 (s + 5) (ecs s n)
theorem VerBlk.mk' {w W : World} {n : Nat} (h : W = addObjs w (verObjs w.heap.size n)) : VerBlk W w.heap.size n ∧ Below w.heap.size w W := by
  subst h
  have hh := addObjs_heap (verObjs w.heap.size n) w
  have hg : ∀ j, (addObjs w (verObjs w.heap.size n)).heap[w.heap.size + j]? = (verObjs w.heap.size n)[j]? := fun j => by
    rw [hh, Array.getElem?_append_right (by omega), Nat.add_sub_cancel_left, List.getElem?_toArray]
  refine ⟨⟨hg 0, fun i hi => ?_, hg 5⟩, addObjs_below _ _ _ _ (Nat.le_refl _) (Below.refl _ _)⟩
  have : i = 0 ∨ i = 1 ∨ i = 2 ∨ i = 3 := by omega
  rcases this with rfl | rfl | rfl | rfl
  · exact hg 1
  · exact hg 2
  · exact hg 3
  · exact hg 4
theorem VerBlk.keep {w w' : World} {s n : Nat} (h : VerBlk w s n) (hk : ∀ k, s ≤ k → k ≤ s + 5 → w'.heap[k]? = w.heap[k]?) : VerBlk w' s n :=
  ⟨h.cen.keep (hk _ (by omega) (by omega)), fun i hi => (h.gr i hi).keep (hk _ (by omega) (by omega)), h.ec.keep (hk _ (by omega) (by omega))⟩
theorem VerBlk.below {w w' : World} {s n : Nat} (h : VerBlk w s n) (hb : Below w.heap.size w w') : VerBlk w' s n :=
  h.keep fun k _ hk => hb.block k (by have := h.ec.lt; omega)
/-- A version: its numbers, and the blocks behind it. -/
def VerAt (w : World) (p n : Nat) : Prop := ∃ s, s + 5 < p ∧ Arr w 117 p [.int .i64 n, .slice (some ⟨s, 0, none⟩) (cenOf n).length (cenOf n).length, .slice (some ⟨s + 5, 0, none⟩) 4 4, .int .i64 (totOf n : Nat)] ∧ VerBlk w s n
theorem VerAt.keep {w w' : World} {p n : Nat} (h : VerAt w p n) (hk : ∀ k, k ≤ p → w'.heap[k]? = w.heap[k]?) : VerAt w' p n := by
  obtain ⟨s, h0, h1, h2⟩ := h
  exact ⟨s, h0, h1.keep (hk p (Nat.le_refl _)), h2.keep fun k _ h4 => hk k (by omega)⟩
theorem VerAt.lt {w : World} {p n : Nat} (h : VerAt w p n) : p < w.heap.size := by
  obtain ⟨s, h0, h1, h2⟩ := h
  exact h1.lt
theorem VerAt.below {w w' : World} {p n : Nat} (h : VerAt w p n) (hb : Below w.heap.size w w') : VerAt w' p n := h.keep fun k hk => hb.block k (by have := h.lt; omega)
def VerGot (n : Nat) (w : World) (e : Ending) (w' : World) : Prop := ∃ p, e = .returned (.pointer (some ⟨p, 0, none⟩)) ∧ VerAt w' p n ∧ Below w.heap.size w w'

theorem tot_all : ((List.range 40).all fun n => decide ((grOf (n + 1) 1).length ≤ 4) && (decide (ecOf (n + 1) 1 ≤ 100) && (((grOf (n + 1) 1).all fun x => decide (x.1 ≤ 100) && decide (x.2 ≤ 200)) && decide (tot (ecOf (n + 1) 1) (fun j => ((grOf (n + 1) 1).getD j (0, 0)).1) (fun j => ((grOf (n + 1) 1).getD j (0, 0)).2) (grOf (n + 1) 1).length = totOf (n + 1))))) = true := by decide +kernel
theorem getD_le {l : List (Nat × Nat)} (h : (l.all fun x => decide (x.1 ≤ 100) && decide (x.2 ≤ 200)) = true) (j : Nat) : (l.getD j (0, 0)).1 ≤ 100 ∧ (l.getD j (0, 0)).2 ≤ 200 := by
  by_cases hj : j < l.length
  · rw [List.getD_eq_getElem?_getD, List.getElem?_eq_getElem hj]
    rw [List.all_eq_true] at h
    have := h l[j] (List.getElem_mem hj)
    simpa using this
  · rw [List.getD_eq_getElem?_getD, List.getElem?_eq_none (by omega)]
    simp
theorem newVersionV (n s cn : Nat) (w : World) (h1 : 1 ≤ n) (h2 : n ≤ 40) (hcn : cn = (cenOf n).length) (hv : VerBlk w s n) :
    Calls Try.prog 79 #[.int .i64 n, .slice (some ⟨s, 0, none⟩) cn cn, .slice (some ⟨s + 5, 0, none⟩) 4 4] w (VerGot n w) := by
  have h := tot_all
  rw [List.all_eq_true] at h
  have h := h (n - 1) (by simp; omega)
  rw [show n - 1 + 1 = n by omega] at h
  simp only [Bool.and_eq_true, decide_eq_true_iff] at h
  obtain ⟨a, b, c, d⟩ := h
  have e0 := ecs_get s n 0 (by omega)
  refine (newVersion n (some ⟨s, 0, none⟩) cn cn (s + 5) 4 (s + 1) (grOf n 1).length (ecOf n 1) _ _ w a b (fun j => (getD_le c j).1) (fun j => (getD_le c j).2) (by decide) hv.ec.lt (hv.gr 0 (by omega)).lt ?_ ?_ ?_).mono ?_
  · rw [hv.ec.cell?]; exact e0.1
  · rw [hv.ec.cell?]; exact e0.2
  · intro j hj
    have := flat_get _ j hj
    exact ⟨((hv.gr 0 (by omega)).cell? _).trans this.1, ((hv.gr 0 (by omega)).cell? _).trans this.2⟩
  · rintro e w1 ⟨p, rfl, hA, hb, hp⟩
    rw [d, hcn] at hA
    exact ⟨p, rfl, ⟨s, by have := hv.ec.lt; omega, hA, hv.below hb⟩, hb⟩
end Go.Proofs.Ythkiajighmhdoaa
