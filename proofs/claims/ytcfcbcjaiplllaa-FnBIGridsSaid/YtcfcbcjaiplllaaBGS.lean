/-
  Plain: steps on rows of bits, and what they make of them; how steps lie in memory.
-/
import Derived.Test.YtcfcbcjaiplllaaBMW
import Derived.Test.YtcfcbcjaiplllaaBMX
import Derived.Test.YtcfcbcjaiplllaaBMP
import Derived.Test.YtcfcbcjaiplllaaRDO
namespace Go.Proofs.Ytcfcbcjaiplllaa
open Go.RowKit Go.Qz
set_option linter.unusedVariables false

/-- A step: its words, its bits. -/
structure Stp where
  op : Nat
  X : Int
  Y : Int
  C : Int
  D : Int
  A : Option Addr
  n : Nat
  c : Nat
  B : Nat → Bool
def Stp.cells (s : Stp) : List Value := [.int .i64 s.op, .int .i64 s.X, .int .i64 s.Y, .int .i64 s.C, .int .i64 s.D, .slice s.A s.n s.c]
/-- Rows of bits: row r, column c. -/
structure Pic where
  W : Nat
  H : Nat
  f : Nat → Nat → Bool
def Stp.isReg (s : Stp) (P : Pic) : Bool := decide (0 ≤ s.X ∧ 0 ≤ s.Y ∧ 1 ≤ s.C ∧ 1 ≤ s.D ∧ s.X + s.C ≤ P.W ∧ s.Y + s.D ≤ P.H)
def Stp.told (s : Stp) (P : Pic) : Bool := if s.op = 4 then s.isReg P else true
def Stp.eff (s : Stp) (P : Pic) (r c : Nat) : Bool :=
  if s.op = 1 then (if (c : Int) = s.X ∧ (r : Int) = s.Y then true else P.f r c)
  else if s.op = 2 then (if (c : Int) = s.X ∧ (r : Int) = s.Y then false else P.f r c)
  else if s.op = 3 then (if (c : Int) = s.X ∧ (r : Int) = s.Y then !P.f r c else P.f r c)
  else if s.op = 4 then (P.f r c || (s.isReg P && decide (s.X ≤ c ∧ (c : Int) < s.X + s.C ∧ s.Y ≤ r ∧ (r : Int) < s.Y + s.D)))
  else if s.op = 5 then !P.f r c
  else if s.op = 6 then false
  else if s.op = 7 then P.f (P.H - 1 - r) (P.W - 1 - c)
  else if s.op = 8 then P.f c (P.W - 1 - r)
  else if s.op = 9 then (if (r : Int) = s.Y then s.B c else P.f r c)
  else (if (r : Int) = s.Y then (P.f r c != s.B c) else P.f r c)
def Stp.run (s : Stp) (P : Pic) : Pic := ⟨if s.op = 8 then P.H else P.W, if s.op = 8 then P.W else P.H, s.eff P⟩
/-- A step that rows of these sizes take. -/
def Stp.good (s : Stp) (W H : Nat) : Prop :=
  ((s.op = 1 ∨ s.op = 2 ∨ s.op = 3) ∧ 0 ≤ s.X ∧ s.X < W ∧ 0 ≤ s.Y ∧ s.Y < H) ∨
  (s.op = 4 ∧ (-1000 < s.X ∧ s.X < 1000) ∧ (-1000 < s.Y ∧ s.Y < 1000) ∧ (-1000 < s.C ∧ s.C < 1000) ∧ (-1000 < s.D ∧ s.D < 1000)) ∨
  s.op = 5 ∨ s.op = 6 ∨ (s.op = 7 ∧ W % 32 ≠ 0) ∨ s.op = 8 ∨ ((s.op = 9 ∨ s.op = 10) ∧ 0 ≤ s.Y ∧ s.Y < H ∧ s.n = W)
def Goods : List Stp → Nat → Nat → Prop
  | [], _, _ => True
  | s :: l, W, H => s.good W H ∧ Goods l (if s.op = 8 then H else W) (if s.op = 8 then W else H)
def runS : List Stp → Pic → Pic
  | [], P => P
  | s :: l, P => runS l (s.run P)
def toldS : List Stp → Pic → List Bool
  | [], _ => []
  | s :: l, P => s.told P :: toldS l (s.run P)
theorem toldS_len : ∀ (l : List Stp) (P : Pic), (toldS l P).length = l.length
  | [], _ => rfl
  | s :: l, P => by rw [toldS, List.length_cons, List.length_cons, toldS_len l]
/-- What is left of the steps. -/
structure Left (l : List Stp) (P0 : Pic) (k : Nat) (P : Pic) (acc : List Bool) : Prop where
  good : Goods (l.drop k) P.W P.H
  run : runS (l.drop k) P = runS l P0
  told : acc ++ toldS (l.drop k) P = toldS l P0
  len : acc.length = k
  w0 : 0 < P.W
  h0 : 0 < P.H
  wl : P.W < 1000
  hl : P.H < 1000
theorem Left.start {l : List Stp} {P : Pic} (h : Goods l P.W P.H) (w0 : 0 < P.W) (h0 : 0 < P.H) (wl : P.W < 1000) (hl : P.H < 1000) : Left l P 0 P [] := ⟨h, rfl, rfl, rfl, w0, h0, wl, hl⟩
def nthS (l : List Stp) (k : Nat) : Stp := l.getD k ⟨0, 0, 0, 0, 0, none, 0, 0, fun _ => false⟩
theorem nthS_eq {l : List Stp} {k : Nat} (h : k < l.length) : nthS l k = l[k] := by simp [nthS, List.getD_eq_getElem?_getD, List.getElem?_eq_getElem h]
theorem drop_nthS {l : List Stp} {k : Nat} (h : k < l.length) : l.drop k = nthS l k :: l.drop (k + 1) := by rw [nthS_eq h, List.drop_eq_getElem_cons h]
theorem Left.good1 {l : List Stp} {P0 P : Pic} {k : Nat} {acc : List Bool} (h : Left l P0 k P acc) (hk : k < l.length) : (nthS l k).good P.W P.H := by
  have := h.good
  rw [drop_nthS hk] at this
  exact this.1
theorem Left.next {l : List Stp} {P0 P : Pic} {k : Nat} {acc : List Bool} (h : Left l P0 k P acc) (hk : k < l.length) : Left l P0 (k + 1) ((nthS l k).run P) (acc ++ [(nthS l k).told P]) := by
  have h1 := h.good
  have h2 := h.run
  have h3 := h.told
  rw [drop_nthS hk] at h1 h2 h3
  refine ⟨h1.2, h2, ?_, by rw [List.length_append, h.len]; rfl, ?_, ?_, ?_, ?_⟩
  · rw [List.append_assoc]; exact h3
  · show 0 < if (nthS l k).op = 8 then P.H else P.W
    split
    · exact h.h0
    · exact h.w0
  · show 0 < if (nthS l k).op = 8 then P.W else P.H
    split
    · exact h.w0
    · exact h.h0
  · show (if (nthS l k).op = 8 then P.H else P.W) < 1000
    split
    · exact h.hl
    · exact h.wl
  · show (if (nthS l k).op = 8 then P.W else P.H) < 1000
    split
    · exact h.wl
    · exact h.hl
theorem Left.done {l : List Stp} {P0 P : Pic} {k : Nat} {acc : List Bool} (h : Left l P0 k P acc) (hk : k = l.length) : P = runS l P0 ∧ acc = toldS l P0 := by
  have h2 := h.run
  have h3 := h.told
  rw [hk, List.drop_length] at h2 h3
  exact ⟨h2, by simpa [toldS] using h3⟩

/-- Steps that lie in memory, one behind the other, with their bits. -/
def Steps (w : World) (A : Option Addr) (l : List Stp) : Prop :=
  0 < l.length → ∃ b off, A = some ⟨b, off, none⟩ ∧ b < w.heap.size ∧ ∀ j, j < l.length → (∀ i v, (nthS l j).cells[i]? = some v → w.cell? ⟨b, off + j * 6 + i, none⟩ = some v) ∧ ((nthS l j).op = 9 ∨ (nthS l j).op = 10 → Rd w (nthS l j).A (nthS l j).n (fun i => .bool ((nthS l j).B i)))
theorem Steps.keep {w w' : World} {A : Option Addr} {l : List Stp} (h : Steps w A l) (hb : Below w.heap.size w w') : Steps w' A l := fun h0 => by
  obtain ⟨b, off, e, hlt, hc⟩ := h h0
  refine ⟨b, off, e, Nat.lt_of_lt_of_le hlt hb.size, fun j hj => ⟨fun i v hv => ?_, fun ho => ((hc j hj).2 ho).below hb⟩⟩
  exact (hb.cell (p := ⟨b, off + j * 6 + i, none⟩) hlt).trans ((hc j hj).1 i v hv)
end Go.Proofs.Ytcfcbcjaiplllaa
