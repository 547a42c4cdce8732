/-
  The matrix of a QR symbol: its cells read, set, cleared; the tables of patterns, walked. No condition beyond the bounds that each theorem states.
-/
import Derived.Test.YthkiajighmhdoaaQKM
import Derived.Test.YthkiajighmhdoaaQKQ
import Derived.Outline
import Derived.Deep.RegionHeld3
import Derived.Deep.RegionLaw
import Derived.StillTailTactics
namespace Go.Proofs.Ythkiajighmhdoaa
open Go.RowKit Go.Qz Go.Qz.QK Go.Qz.QW
set_option linter.unusedVariables false

/-- Block M is a matrix that shows the grid g. -/
def MG (w : World) (M B n : Nat) (g : G) : Prop := MatAt w M B n fun r c => .int .i8 (g r c)
def upd (g : G) (r0 c0 : Nat) (v : Int) : G := fun r c => if r = r0 ∧ c = c0 then v else g r c
def MatS (B M : Nat) (k : Nat) : Prop := B ≤ k ∧ k ≤ M
variable {w w' : World} {M B n : Nat} {g g' : G}
theorem MG.below (h : MG w M B n g) (hb : Below w.heap.size w w') : MG w' M B n g := MatAt.below h hb
theorem MG.congr (h : MG w M B n g) (hg : ∀ r c, r < n → c < n → g r c = g' r c) : MG w M B n g' := ⟨h.obj, h.grid.congr fun r c hr hc => by show Value.int .i8 (g r c) = .int .i8 (g' r c); rw [hg r c hr hc], h.lt⟩
theorem MG.set_ (h : MG w M B n g) {r0 c0 : Nat} (hr : r0 < n) (v : Int) : MG (w.setCell ⟨B + 1 + r0, c0, none⟩ (.int .i8 v)) M B n (upd g r0 c0 v) :=
  MatAt.set_ h r0 c0 hr _ fun r c _ _ => by show Value.int .i8 (if r = r0 ∧ c = c0 then v else g r c) = _; by_cases e : r = r0 ∧ c = c0 <;> simp [e]
theorem MG.drewN (h : MG w M B n g) (k : Nat) : MG (w.drewN k) M B n g := MatAt.below h (below_drewN (Below.refl _ _) k)
theorem MG.mlt (h : MG w M B n g) : M < w.heap.size := h.obj.lt
theorem MG.mod {S : Nat → Prop} (h : MG w M B n g) (hm : Mod S w w') (hs : ∀ k, B ≤ k → k ≤ M → ¬ S k) : MG w' M B n g :=
  ⟨h.obj.mod hm (hs M (by have := h.lt; omega) (Nat.le_refl _)), h.grid.mod hm (fun j h1 h2 => hs j h1 (by have := h.lt; omega)), h.lt⟩
theorem Mod.mset {a : World} (h : Mod (MatS B M) a w) (hM : B + n < M) {r0 c0 : Nat} (hr : r0 < n) (v : Value) : Mod (MatS B M) a (w.setCell ⟨B + 1 + r0, c0, none⟩ v) := h.then (Mod.set1 w (B + 1 + r0) c0 v) (fun i _ e => ⟨by have e : i = B + 1 + r0 := e; omega, by have e : i = B + 1 + r0 := e; omega⟩)
set_option maxRecDepth 100000 in
set_option maxHeartbeats 1600000 in
theorem mGet (x y : Nat) (hx : x < n) (hy : y < n) (hn : n ≤ 400) (h : MG w M B n g) :
    Calls Try.prog 100 #[.pointer (some ⟨M, 0, none⟩), .int .i64 x, .int .i64 y] w fun e w' => e = .returned (.int .i8 (g y x)) ∧ w = w' := by
  have a0 := h.obj.cell? 0
  simp only [List.getElem?_cons_zero] at a0
  have ch := h.grid.head y hy hy
  have cl := h.grid.cell y x hy hx
  have hx0 : (0 : Int) ≤ (x : Int) := by omega
  have hx1 : (x : Int) < (n : Int) := by omega
  have hy0 : (0 : Int) ≤ (y : Int) := by omega
  have hy1 : (y : Int) < (n : Int) := by omega
  generalize g y x = z at cl ⊢
  clear h
  go_enter Try.func100, Try.ntmps100
  go_wp2_with fail
  go_ret
  exact ⟨rfl, rfl⟩
set_option maxRecDepth 100000 in
set_option maxHeartbeats 1600000 in
theorem mSet (x y : Nat) (v : Int) (hx : x < n) (hy : y < n) (hn : n ≤ 400) (h : MG w M B n g) :
    Calls Try.prog 118 #[.pointer (some ⟨M, 0, none⟩), .int .i64 x, .int .i64 y, .int .i8 v] w fun e w' => e = .returned (.tuple #[]) ∧ w' = w.setCell ⟨B + 1 + y, x, none⟩ (.int .i8 v) :=
  mat_set M B n x y (.int .i8 v) rfl (fun r c => .int .i8 (g r c)) hx hy hn v rfl w h
def b8 (b : Bool) : Int := if b then 1 else 0
set_option maxRecDepth 100000 in
set_option maxHeartbeats 1600000 in
theorem mSetB (x y : Nat) (b : Bool) (hx : x < n) (hy : y < n) (hn : n ≤ 400) (h : MG w M B n g) :
    Calls Try.prog 95 #[.pointer (some ⟨M, 0, none⟩), .int .i64 x, .int .i64 y, .bool b] w fun e w' => e = .returned (.tuple #[]) ∧ w' = w.setCell ⟨B + 1 + y, x, none⟩ (.int .i8 (b8 b)) := by
  have a0 := h.obj.cell? 0
  simp only [List.getElem?_cons_zero] at a0
  have ch := h.grid.head y hy hy
  have cl := h.grid.cell y x hy hx
  have fl := (h.grid.row y hy).free x
  have hx0 : (0 : Int) ≤ (x : Int) := by omega
  have hx1 : (x : Int) < (n : Int) := by omega
  have hy0 : (0 : Int) ≤ (y : Int) := by omega
  have hy1 : (y : Int) < (n : Int) := by omega
  generalize g y x = z at cl
  clear h
  cases b with
  | true =>
    go_enter Try.func95, Try.ntmps95
    go_wp2_with fail
    go_end0
    exact ⟨rfl, rfl⟩
  | false =>
    go_enter Try.func95, Try.ntmps95
    go_wp2_with fail
    go_end0
    exact ⟨rfl, rfl⟩
set_option maxRecDepth 100000 in
theorem isEmp (z : Int) (w : World) : Calls Try.prog 99 #[.int .i8 z] w fun e w' => e = .returned (.bool (z == -1)) ∧ w = w' := by
  go_enter Try.func99, Try.ntmps99
  go_wp2_with fail
  go_ret
  exact ⟨rfl, rfl⟩
/-- A table of numbers: rows as long as each other. -/
def TabAt (w : World) (base : Nat) (k : IntKind) (b : Nat) (W m : Nat) (rows : List (List Int)) : Prop := ∃ p : Nat → Nat, ∀ j, j < m → base ≤ p j ∧ w.cell? ⟨b, j, none⟩ = some (.slice (some ⟨p j, 0, none⟩) W W) ∧ ∀ i, i < W → w.cell? ⟨p j, i, none⟩ = some (.int k ((rows.getD j []).getD i 0))
def TabPost (k : IntKind) (W m : Nat) (rows : List (List Int)) (w : World) (e : Ending) (w' : World) : Prop := ∃ b : Nat, e = .returned (.slice (some ⟨b, 0, none⟩) m m) ∧ Hid (TabAt w' w.heap.size k b W m rows) ∧ Hid (Below w.heap.size w w')
def addAllK (w : World) (l : List Obj) : World := l.foldl World.alloc w
theorem addAllK_heap : ∀ (l : List Obj) (w : World), (addAllK w l).heap = w.heap ++ l.toArray
  | [], w => by simp [addAllK]
  | o :: l, w => by
    have h := addAllK_heap l (w.alloc o)
    show (addAllK (w.alloc o) l).heap = _
    have h2 : (w.alloc o).heap = w.heap.push o := rfl
    rw [h, h2]
    simp
theorem addAllK_below (B : Nat) : ∀ (l : List Obj) (w w0 : World), B ≤ w.heap.size → Below B w0 w → Below B w0 (addAllK w l)
  | [], w, w0, _, h => h
  | o :: l, w, w0, hB, h => addAllK_below B l (w.alloc o) w0 (by simp; omega) (h.alloc hB _)
def tabRow (k : IntKind) (te : TypeId) (l : List Int) : Obj := .cells (l.map fun x => Value.int k x).toArray te
def tabObjs (k : IntKind) (te tr : TypeId) (W H : Nat) (rows : List (List Int)) : List Obj := rows.map (tabRow k te) ++ [.cells ((List.range rows.length).map (fun j => Value.slice (some ⟨H + j, 0, none⟩) W W)).toArray tr]
theorem TabPost.mk {k : IntKind} (te tr : TypeId) {W m : Nat} {rows : List (List Int)} {V : World} {e : Ending} (hm : rows.length = m) (hl : ∀ l ∈ rows, l.length = W) (he : e = .returned (.slice (some ⟨w.heap.size + m, 0, none⟩) m m)) (hV : V = addAllK w (tabObjs k te tr W w.heap.size rows)) : TabPost k W m rows w e V := by
  subst he hV hm
  have hh := addAllK_heap (tabObjs k te tr W w.heap.size rows) w
  refine ⟨w.heap.size + rows.length, rfl, Lib.hid ⟨fun j => w.heap.size + j, fun j hj => ?_⟩, Lib.hid (addAllK_below _ _ _ _ (Nat.le_refl _) (Below.refl _ _))⟩
  have hr : (addAllK w (tabObjs k te tr W w.heap.size rows)).heap[w.heap.size + j]? = some (tabRow k te rows[j]) := by
    rw [hh, Array.getElem?_append_right (by omega), Nat.add_sub_cancel_left, List.getElem?_toArray]
    unfold tabObjs
    rw [List.getElem?_append_left (by simpa using hj)]
    simp [hj]
  have hb : (addAllK w (tabObjs k te tr W w.heap.size rows)).heap[w.heap.size + rows.length]? = some (.cells ((List.range rows.length).map (fun j => Value.slice (some ⟨w.heap.size + j, 0, none⟩) W W)).toArray tr) := by
    rw [hh]; simp [tabObjs]
  refine ⟨Nat.le_add_right _ _, ?_, fun i hi => ?_⟩
  · simp [World.cell?, hb, hj]
  · have hlj := hl _ (List.getElem_mem hj)
    have hil : i < rows[j].length := by omega
    simp [World.cell?, hr, tabRow, List.getD_eq_getElem?_getD, hj, hil]
def finT : List (List Int) := [[1, 1, 1, 1, 1, 1, 1], [1, 0, 0, 0, 0, 0, 1], [1, 0, 1, 1, 1, 0, 1], [1, 0, 1, 1, 1, 0, 1], [1, 0, 1, 1, 1, 0, 1], [1, 0, 0, 0, 0, 0, 1], [1, 1, 1, 1, 1, 1, 1]]
def aliT : List (List Int) := [[1, 1, 1, 1, 1], [1, 0, 0, 0, 1], [1, 0, 1, 0, 1], [1, 0, 0, 0, 1], [1, 1, 1, 1, 1]]
def tyT : List (List Int) := [[8, 0], [8, 1], [8, 2], [8, 3], [8, 4], [8, 5], [8, 7], [8, 8], [7, 8], [5, 8], [4, 8], [3, 8], [2, 8], [1, 8], [0, 8]]
def corT : List (List Int) := (List.range 40).map fun v => (cenOf (v + 1)).map (fun x : Nat => (x : Int)) ++ List.replicate (7 - (cenOf (v + 1)).length) (-1)
theorem finT_at : ∀ y, y < 7 → ∀ x, x < 7 → (finT.getD y []).getD x 0 = pdv y x := by decide
theorem aliT_at : ∀ y, y < 5 → ∀ x, x < 5 → (aliT.getD y []).getD x 0 = pav y x := by decide
set_option maxRecDepth 100000 in
set_option maxHeartbeats 3200000 in
theorem finTab (w : World) : Calls Try.prog 114 #[] w (TabPost .i8 7 7 finT w) := by
  go_enter Try.func114, Try.ntmps114
  go_wp2_with fail
  go_ret
  exact TabPost.mk 46 45 rfl (by decide) (by kernel_rfl) (by kernel_rfl)
set_option maxRecDepth 100000 in
set_option maxHeartbeats 3200000 in
theorem aliTab (w : World) : Calls Try.prog 126 #[] w (TabPost .i8 5 5 aliT w) := by
  go_enter Try.func126, Try.ntmps126
  go_wp2_with fail
  go_ret
  exact TabPost.mk 46 45 rfl (by decide) (by kernel_rfl) (by kernel_rfl)
set_option maxRecDepth 100000 in
set_option maxHeartbeats 3200000 in
theorem tyTab (w : World) : Calls Try.prog 94 #[] w (TabPost .i64 2 15 tyT w) := by
  go_enter Try.func94, Try.ntmps94
  go_wp2_with fail
  go_ret
  exact TabPost.mk 3 79 rfl (by decide) (by kernel_rfl) (by kernel_rfl)
set_option maxRecDepth 100000 in
set_option maxHeartbeats 6400000 in
theorem corTab (w : World) : Calls Try.prog 119 #[] w (TabPost .i64 7 40 corT w) := by
  go_enter Try.func119, Try.ntmps119
  go_wp2_with fail
  go_ret
  exact TabPost.mk 3 79 rfl (by decide +kernel) (by kernel_rfl) (by kernel_rfl)
/-- What a function leaves that draws into the matrix. -/
def Emb0 (M B n : Nat) (g : G) (w : World) (e : Ending) (w' : World) : Prop := e = .returned (.tuple #[]) ∧ Hid (MG w' M B n g) ∧ Hid (Mod (MatS B M) w w')
def Emb1 (M B n : Nat) (g : G) (w : World) (e : Ending) (w' : World) : Prop := e = .returned .nilIface ∧ Hid (MG w' M B n g) ∧ Hid (Mod (MatS B M) w w')
theorem mod_cell {S : Nat → Prop} (h : Mod S w w') {b o : Nat} {v : Value} (hb : ¬ S b) (hc : w.cell? ⟨b, o, none⟩ = some v) : w'.cell? ⟨b, o, none⟩ = some v := by
  have hl := World.block_lt_of_cell? _ _ hc
  have := h.block b hl hb
  unfold World.cell? at hc ⊢
  rw [this]; exact hc
end Go.Proofs.Ythkiajighmhdoaa
