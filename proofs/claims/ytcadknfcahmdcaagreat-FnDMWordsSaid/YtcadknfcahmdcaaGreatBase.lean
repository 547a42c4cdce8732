/-
  Small words on memory: a slice that reads as a function of the index, append onto a row of the own. No condition beyond the bounds that each theorem states.
-/
import Derived.WalkKit
import Derived.WalkSpells
import Derived.WalkLawsBesides
import Derived.Lib.Hide
import Derived.Laws.OwnMore
import Derived.Deep.Draws
import Derived.ProofKit
import Derived.OpenShut
import Derived.ShutString
import Derived.ChangeOld
import Derived.Below
import Derived.Deep.Grids
namespace Go.Qz
open Go.RowKit

/-- A slice value with address A and n elements of one cell reads as f. -/
def Rd (w : World) (A : Option Addr) (n : Nat) (f : Nat → Value) : Prop :=
  0 < n → ∃ b off, A = some ⟨b, off, none⟩ ∧ b < w.heap.size ∧ ∀ j, j < n → w.cell? ⟨b, off + j, none⟩ = some (f j)

theorem Rd.keep {w w' : World} {A : Option Addr} {n : Nat} {f : Nat → Value} (h : Rd w A n f) (hs : w.heap.size ≤ w'.heap.size) (hk : ∀ p : Addr, p.block < w.heap.size → w'.cell? p = w.cell? p) : Rd w' A n f := by
  intro hn
  obtain ⟨b, off, e, hb, hc⟩ := h hn
  exact ⟨b, off, e, by omega, fun j hj => (hk _ hb).trans (hc j hj)⟩
theorem Rd.below {w w' : World} {A : Option Addr} {n : Nat} {f : Nat → Value} (h : Rd w A n f) (hb : Below w.heap.size w w') : Rd w' A n f :=
  h.keep hb.size fun _ hp => hb.cell hp
theorem Rd.alloc {w : World} {A : Option Addr} {n : Nat} {f : Nat → Value} (h : Rd w A n f) (o : Obj) : Rd (w.alloc o) A n f :=
  h.below ((Below.refl _ _).alloc (Nat.le_refl _) o)
theorem Rd.drew {w : World} {A : Option Addr} {n : Nat} {f : Nat → Value} (h : Rd w A n f) : Rd w.drew A n f := h
theorem Rd.drewN {w : World} {A : Option Addr} {n : Nat} {f : Nat → Value} (h : Rd w A n f) (k : Nat) : Rd (w.drewN k) A n f := h
theorem Rd.congr {w : World} {A : Option Addr} {n : Nat} {f g : Nat → Value} (h : Rd w A n f) (hg : ∀ j, j < n → f j = g j) : Rd w A n g := by
  intro hn
  obtain ⟨b, off, e, hb, hc⟩ := h hn
  exact ⟨b, off, e, hb, fun j hj => by rw [hc j hj, hg j hj]⟩

/-- What a row of the call's own holds can be read. -/
theorem Rd.of_own {w : World} {base : Nat} {e : TypeId} {v : Value} {n : Nat} {xs : List Value} (h : w.ownsRow base e 1 v n xs) :
    ∃ A c, v = .slice A n c ∧ n ≤ c ∧ c ≤ maxLen ∧ Rd w A n (fun j => xs.getD j undef) := by
  obtain ⟨h1, h2⟩ := h
  rcases h2 with ⟨rfl, rfl⟩ | ⟨g, cap, cur, rfl, hb, hh, hc, hm, hz, ht⟩
  · exact ⟨none, 0, rfl, Nat.le_refl _, by unfold maxLen; omega, fun h => absurd h (by omega)⟩
  · refine ⟨some ⟨g, 0, none⟩, cap, rfl, hc, hm, fun _ => ⟨g, 0, rfl, (Array.getElem?_eq_some_iff.1 hh).1, fun j hj => ?_⟩⟩
    rw [cell_of_row w g (0 + j) cur e (0, 0) hh]
    have hl : j < xs.length := by omega
    have : xs[j]? = cur[j]? := by
      rw [← ht, List.getElem?_take]; simp; omega
    simp [List.getD_eq_getElem?_getD, ← this, List.getElem?_eq_getElem hl]

/-- The k-th one; the walk's simp does not look behind the name. -/
def nth (l : List Nat) (k : Nat) : Nat := l.getD k 0
def nthI (l : List Int) (k : Nat) : Int := l.getD k 0
def nthB (l : List Bool) (k : Nat) : Bool := l.getD k false
theorem nth_eq {l : List Nat} {k : Nat} (h : k < l.length) : nth l k = l[k] := by simp [nth, List.getD_eq_getElem?_getD, List.getElem?_eq_getElem h]
theorem nthI_eq {l : List Int} {k : Nat} (h : k < l.length) : nthI l k = l[k] := by simp [nthI, List.getD_eq_getElem?_getD, List.getElem?_eq_getElem h]
theorem nthB_eq {l : List Bool} {k : Nat} (h : k < l.length) : nthB l k = l[k] := by simp [nthB, List.getD_eq_getElem?_getD, List.getElem?_eq_getElem h]
theorem nth_mem {l : List Nat} {k : Nat} (h : k < l.length) : nth l k ∈ l := by rw [nth_eq h]; exact List.getElem_mem h
theorem drop_nth {l : List Nat} {k : Nat} (h : k < l.length) : l.drop k = nth l k :: l.drop (k + 1) := by rw [nth_eq h, List.drop_eq_getElem_cons h]
theorem drop_nthI {l : List Int} {k : Nat} (h : k < l.length) : l.drop k = nthI l k :: l.drop (k + 1) := by rw [nthI_eq h, List.drop_eq_getElem_cons h]
theorem drop_nthB {l : List Bool} {k : Nat} (h : k < l.length) : l.drop k = nthB l k :: l.drop (k + 1) := by rw [nthB_eq h, List.drop_eq_getElem_cons h]
theorem take_nth {l : List Nat} {k : Nat} (h : k < l.length) : l.take (k + 1) = l.take k ++ [nth l k] := by rw [nth_eq h, List.take_succ_eq_append_getElem h]
theorem take_nthI {l : List Int} {k : Nat} (h : k < l.length) : l.take (k + 1) = l.take k ++ [nthI l k] := by rw [nthI_eq h, List.take_succ_eq_append_getElem h]
theorem take_nthB {l : List Bool} {k : Nat} (h : k < l.length) : l.take (k + 1) = l.take k ++ [nthB l k] := by rw [nthB_eq h, List.take_succ_eq_append_getElem h]

/-- 'v = append(v, u)' onto a row of the call's own: behind the new block that holds u. -/
theorem wpList_push {P : Program} {W : World} {ops : Array Oper} {rest : List Oper} {o : Oper} {a : Act} {Q : Exit → Act → World → Prop} (s x : Operand) (t : TypeId)
    (base : Nat) (e : TypeId) (z : Value) (bytes : Nat) (v : Value) (n : Nat) (xs : List Value) (u : Value)
    (hgd : o.guard = none) (ho : o.op = .call { callee := .builtin .append, args := #[s, x], argTypes := #[t, t] })
    (hs : a.eval s = v) (hx : a.eval x = .slice (some ⟨W.heap.size, 0, none⟩) 1 1)
    (ht : P.underlying t = some (.slice e)) (hi : (P.info? e).map (fun i => (i.zero, i.size, i.bytes)) = some (some z, 1, bytes)) (hzs : z.cells.size = 1) (h1 : u.oneCell' = true) (hb : bytes ≤ 64)
    (hown : W.ownsRow base e 1 v n xs) (hn : n < 1099511627776) (hbase : base ≤ W.heap.size)
    (h : ∀ v' w', w'.ownsRow base e 1 v' (n + 1) (xs ++ [u]) → W.grownBy w' v.ownBlock → Below base W w' → wpList P ops Q rest (a.put o.dst v') w') :
    wpList P ops Q (o :: rest) a (W.alloc (.cells #[u] e)) := by
  obtain ⟨i0, hi, hz0, hz1, hz2⟩ := info_parts hi
  refine wpList_append_own _ hgd s x t ho base e i0 z 1 bytes ht hi hz0 hz1 hz2 hzs (by decide) v n xs hs (hown.alloc _) ⟨W.heap.size, 0, none⟩ 1 1 [u] hx rfl ?_ ?_ ?_ ?_ ?_ ?_
  · intro j u' hu
    have : j = 0 := by
      rcases Nat.eq_zero_or_pos j with h | h
      · exact h
      · rw [List.getElem?_eq_none (by simp; omega)] at hu; cases hu
    subst this
    simp at hu
    subst hu
    rw [Addr.add_lit, World.cell?_alloc_at _ _ _ _ rfl]
    rfl
  · intro u' hu
    simp at hu
    subst hu
    exact h1
  · unfold maxLen; omega
  · have : (n + 1) * bytes ≤ 1099511627776 * 64 := Nat.mul_le_mul (by omega) hb
    omega
  · simp; omega
  · intro v' w' g1 g2 _
    have g3 : W.grownBy w' v.ownBlock :=
      ⟨g2.os, g2.tape, g2.output, Nat.le_trans (by simp) g2.size, fun k hk hne => (g2.block k (by simp; omega) hne).trans (Below.heap_alloc W _ k hk)⟩
    exact h v' w' g1 g3 ((Below.refl _ _).grown g3 hbase fun k hk => (hown.lt k hk).1)

theorem run_append_none {P : Program} (w : World) (base : Nat) (t ty e : TypeId) (i : TypeInfo) (size : Nat) (ht : P.underlying t = some (.slice e)) (hi : P.info? e = some i)
    (v : Value) (n : Nat) (xs : List Value) (hown : w.ownsRow base e size v n xs) (c : Nat) : (Builtin.append_ #[t, t] ty #[v, .slice none 0 c]).run P w = .ok v w := by
  rcases hown.2 with ⟨rfl, rfl⟩ | ⟨g, cap, cur, rfl, _, _, hnc, _⟩
  · simp [Builtin.append_, run_underlying ht, sizeOf, typeInfo, hi, Builtin.lenOf, Builtin.firstCells]
  · simp [Builtin.append_, run_underlying ht, sizeOf, typeInfo, hi, Builtin.lenOf, Builtin.firstCells, hnc, storeCells]

/-- 'append(v, xs...)' onto a row of the call's own, xs read as f: nil, empty or not. -/
theorem wpList_copyTo {P : Program} {W : World} {ops : Array Oper} {rest : List Oper} {o : Oper} {a : Act} {Q : Exit → Act → World → Prop} (s x : Operand) (t : TypeId)
    (base : Nat) (e : TypeId) (z : Value) (bytes : Nat) (v : Value) (n : Nat) (xs : List Value) (A : Option Addr) (m c : Nat) (f : Nat → Value)
    (hgd : o.guard = none) (ho : o.op = .call { callee := .builtin .append, args := #[s, x], argTypes := #[t, t] })
    (hs : a.eval s = v) (hx : a.eval x = .slice A m c)
    (ht : P.underlying t = some (.slice e)) (hi : (P.info? e).map (fun i => (i.zero, i.size, i.bytes)) = some (some z, 1, bytes)) (hzs : z.cells.size = 1) (h1 : ∀ j, j < m → (f j).oneCell' = true) (hb : bytes ≤ 64)
    (hown : W.ownsRow base e 1 v n xs) (hr : Rd W A m f) (hn : n + m < 1099511627776) (hbase : base ≤ W.heap.size)
    (h : ∀ v' w', w'.ownsRow base e 1 v' (n + m) (xs ++ (List.range m).map f) → W.grownBy w' v.ownBlock → Below base W w' → wpList P ops Q rest (a.put o.dst v') w') :
    wpList P ops Q (o :: rest) a W := by
  rcases A with _ | ad
  · have hm : m = 0 := by
      rcases Nat.eq_zero_or_pos m with h0 | h0
      · exact h0
      · obtain ⟨b, off, h, _⟩ := hr h0
        cases h
    subst hm
    obtain ⟨i0, hi, _, _, _⟩ := info_parts hi
    refine wpList_plain hgd fun K hK => ?_
    have hrun := run_append_none (P := P) W base t o.type e i0 1 ht hi v n xs hown c
    unfold Oper.wp execOp
    simp only [ho, resolve, invoke, builtin, Sem.run_bind, Sem.run_pure, Result.andThen_ok, List.map_toArray, List.map_cons, List.map_nil, hs, hx, hrun]
    exact hK _ _ (h v W (by simpa using hown) (World.grownBy.refl W _) (Below.refl _ _))
  · obtain ⟨i0, hi, hz0, hz1, hz2⟩ := info_parts hi
    refine wpList_append_own _ hgd s x t ho base e i0 z 1 bytes ht hi hz0 hz1 hz2 hzs (by decide) v n xs hs hown ad m c ((List.range m).map f) hx (by simp) ?_ ?_ ?_ ?_ hbase ?_
    · intro j u hu
      have hj : j < m := by
        rcases Nat.lt_or_ge j m with h | h
        · exact h
        · rw [List.getElem?_eq_none (by simpa using h)] at hu; cases hu
      obtain ⟨b, off, e1, hb, hc⟩ := hr (by omega)
      have e2 : ad = ⟨b, off, none⟩ := by injection e1
      have e3 : u = f j := by
        rw [List.getElem?_map, List.getElem?_range hj] at hu
        simpa using hu.symm
      rw [e2, e3, ← hc j hj]
      unfold Addr.add
      split <;> simp_all
    · intro u hu
      obtain ⟨j, hj, rfl⟩ := List.mem_map.1 hu
      exact h1 j (by simpa using hj)
    · unfold maxLen; omega
    · have : (n + m) * bytes ≤ 1099511627776 * 64 := Nat.mul_le_mul (by omega) hb
      omega
    · intro v' w' g1 g2 _
      exact h v' w' g1 g2 ((Below.refl _ _).grown g2 hbase fun k hk => (hown.lt k hk).1)

section
open Go.ChangeShapes Go.WideShapes Go.ChangeAt Go.Deep
variable {H : Type} {enc : TypeId × Value → H} {P : Program} {W : World}
theorem rd_ints {t e : TypeId} {k : IntKind} {a0 : Option Addr} {len0 cap0 : Nat} {d : DataW H} {p : List MemPlace} (ht : P.underlying t = some (.slice e)) (he : P.underlying e = some (.int k)) (hc : P.cellsOf e = 1)
    (h : DataW.Trod enc P W 0 (fun _ => true) true t (.slice a0 len0 cap0) d p) :
    len0 ≤ cap0 ∧ cap0 ≤ maxLen ∧ ∃ z : Nat → Int, (∀ j, j < len0 → (Lit.int k (z j)).wf = true) ∧ Rd W a0 len0 (fun j => .int k (z j)) := by
  obtain ⟨fuel, hf⟩ := h
  rcases open_ints ht he hc hf with ⟨hcs, _⟩ | ⟨x, l, c, zs, hcs, _, hl, hm, hz, _, hcell, hwz⟩
  · simp [Value.cells] at hcs
    obtain ⟨rfl, rfl, rfl⟩ := hcs
    exact ⟨Nat.le_refl _, by unfold maxLen; omega, fun _ => 0, fun j h => by omega, fun h => by omega⟩
  · simp [Value.cells] at hcs
    obtain ⟨rfl, rfl, rfl⟩ := hcs
    simp only [if_true] at hz
    refine ⟨hl, hm, fun j => zs.getD j 0, fun j hj => ?_, fun h0 => ?_⟩
    · have hj' : j < zs.length := by omega
      have : zs.getD j 0 ∈ zs := by
        rw [List.getD_eq_getElem?_getD, List.getElem?_eq_getElem hj']; exact List.getElem_mem hj'
      exact hwz _ this
    · obtain ⟨b, off, spot⟩ := x
      have h1 := hcell 0 (by omega)
      have hspot : spot = none := by simpa [Addr.add] using World.cell?_spot h1
      subst hspot
      refine ⟨b, off, rfl, ?_, fun j hj => ?_⟩
      · have := World.block_lt_of_cell? W _ h1
        simpa [Addr.add] using this
      · have h2 := hcell j (by omega)
        rw [← h2]
        unfold Addr.add
        split <;> simp_all
theorem rd_bools {t e : TypeId} {a0 : Option Addr} {len0 cap0 : Nat} {d : DataW H} {p : List MemPlace} (ht : P.underlying t = some (.slice e)) (he : P.underlying e = some .bool) (hc : P.cellsOf e = 1)
    (h : DataW.Trod enc P W 0 (fun _ => true) true t (.slice a0 len0 cap0) d p) :
    len0 ≤ cap0 ∧ cap0 ≤ maxLen ∧ ∃ z : Nat → Bool, Rd W a0 len0 (fun j => .bool (z j)) := by
  obtain ⟨fuel, hf⟩ := h
  rcases open_bools ht he hc hf with ⟨hcs, _⟩ | ⟨x, l, c, zs, hcs, _, hl, hm, _, hcell⟩
  · simp [Value.cells] at hcs
    obtain ⟨rfl, rfl, rfl⟩ := hcs
    exact ⟨Nat.le_refl _, by unfold maxLen; omega, fun _ => false, fun h => by omega⟩
  · simp [Value.cells] at hcs
    obtain ⟨rfl, rfl, rfl⟩ := hcs
    refine ⟨hl, hm, zs, fun h0 => ?_⟩
    obtain ⟨b, off, spot⟩ := x
    have h1 := hcell 0 (by omega)
    have hspot : spot = none := by simpa [Addr.add] using World.cell?_spot h1
    subst hspot
    refine ⟨b, off, rfl, ?_, fun j hj => ?_⟩
    · have := World.block_lt_of_cell? W _ h1
      simpa [Addr.add] using this
    · have h2 := hcell j (by omega)
      rw [← h2]
      unfold Addr.add
      split <;> simp_all
end
theorem bd_u8 {n : Int} (h : (Lit.int .u8 n).wf = true) : 0 ≤ n ∧ n ≤ 255 := by simpa [Lit.wf, IntKind.min, IntKind.max, IntKind.signed, IntKind.bits] using h
theorem bd_u16 {n : Int} (h : (Lit.int .u16 n).wf = true) : 0 ≤ n ∧ n ≤ 65535 := by simpa [Lit.wf, IntKind.min, IntKind.max, IntKind.signed, IntKind.bits] using h
theorem bd_u32 {n : Int} (h : (Lit.int .u32 n).wf = true) : 0 ≤ n ∧ n ≤ 4294967295 := by simpa [Lit.wf, IntKind.min, IntKind.max, IntKind.signed, IntKind.bits] using h
theorem bd_i64 {n : Int} (h : (Lit.int .i64 n).wf = true) : -9223372036854775808 ≤ n ∧ n ≤ 9223372036854775807 := by simpa [Lit.wf, IntKind.min, IntKind.max, IntKind.signed, IntKind.bits] using h

/-- n zero values. -/
def zeros (n : Nat) (z : Value) : Array Value := (List.replicate n z).toArray
theorem madeCells_one (z : Value) (n : Nat) : madeCells #[z] n = zeros n z := by
  unfold madeCells zeros
  apply Array.ext
  · simp
  · intro i h1 h2
    simp [Nat.mod_one]
/-- 'make([]T, n)', T of one cell: an equation for every world, laid ahead of the walk. -/
theorem run_make1 {P : Program} (t e : TypeId) (z : Value) (bytes : Nat) (ht : P.underlying t = some (.slice e)) (hi : (P.info? e).map (fun i => (i.zero, i.size, i.bytes)) = some (some z, 1, bytes)) (hz : z.cells = #[z]) (hb : bytes ≤ 64)
    (n : Nat) (hn : n < 1099511627776) (kl kc : IntKind) (L : Int) (hL : L = n) (w : World) :
    (Instr.makeSlice t (.int kl L) (.int kc L)).run P w = .ok (.slice (some ⟨w.heap.size, 0, none⟩) n n) (w.alloc (.cells (zeros n z) e)) := by
  obtain ⟨i0, hi, hz0, hz1, hz2⟩ := info_parts hi
  subst hL
  have h1 : (i0.bytes : Int) * (n : Int) ≤ 281474976710656 := by
    have : i0.bytes * n ≤ 64 * 1099511627776 := Nat.mul_le_mul (by omega) (by omega)
    rw [← Int.natCast_mul]; omega
  have h := run_make (P := P) w t e i0 z ht hi hz0 kl kc (n : Int) (n : Int) (by omega) (by omega) h1 (by omega)
  rw [h, Int.toNat_natCast, hz1, Nat.mul_one, hz, madeCells_one]
theorem below_drewN {B : Nat} {a w : World} (h : Below B a w) (n : Nat) : Below B a (w.drewN n) := ⟨h.os, h.tape, h.output, h.size, h.block⟩

/-- From w to w' no block has turned but those of S, and new ones. -/
structure Mod (S : Nat → Prop) (w w' : World) : Prop where
  os : w'.os = w.os
  tape : w'.tape = w.tape
  output : w'.output = w.output
  size : w.heap.size ≤ w'.heap.size
  block : ∀ k, k < w.heap.size → ¬ S k → w'.heap[k]? = w.heap[k]?
theorem Mod.refl {S : Nat → Prop} (w : World) : Mod S w w := ⟨rfl, rfl, rfl, Nat.le_refl _, fun _ _ _ => rfl⟩
theorem Mod.trans {S : Nat → Prop} {a b c : World} (h : Mod S a b) (k : Mod S b c) : Mod S a c :=
  ⟨k.os.trans h.os, k.tape.trans h.tape, k.output.trans h.output, Nat.le_trans h.size k.size, fun i hi hs => (k.block i (Nat.lt_of_lt_of_le hi h.size) hs).trans (h.block i hi hs)⟩
theorem Mod.mono {S T : Nat → Prop} {a b : World} (h : Mod S a b) (hT : ∀ k, k < a.heap.size → S k → T k) : Mod T a b :=
  ⟨h.os, h.tape, h.output, h.size, fun i hi hs => h.block i hi fun hh => hs (hT i hi hh)⟩
/-- What follows may also write what is new. -/
theorem Mod.then {S T : Nat → Prop} {a b c : World} (h : Mod S a b) (k : Mod T b c) (hT : ∀ i, i < a.heap.size → T i → S i) : Mod S a c :=
  ⟨k.os.trans h.os, k.tape.trans h.tape, k.output.trans h.output, Nat.le_trans h.size k.size, fun i hi hs => (k.block i (Nat.lt_of_lt_of_le hi h.size) fun hh => hs (hT i hi hh)).trans (h.block i hi hs)⟩
theorem Mod.alloc {S : Nat → Prop} {a w : World} (h : Mod S a w) (o : Obj) : Mod S a (w.alloc o) :=
  h.trans ⟨rfl, rfl, rfl, by simp, fun k hk _ => Below.heap_alloc _ _ _ hk⟩
theorem Mod.drew {S : Nat → Prop} {a w : World} (h : Mod S a w) : Mod S a w.drew := ⟨h.os, h.tape, h.output, h.size, h.block⟩
theorem Mod.drewN {S : Nat → Prop} {a w : World} (h : Mod S a w) (n : Nat) : Mod S a (w.drewN n) := ⟨h.os, h.tape, h.output, h.size, h.block⟩
theorem Mod.setCell {S : Nat → Prop} {a w : World} (h : Mod S a w) {p : Addr} (hp : S p.block ∨ a.heap.size ≤ p.block) (u : Value) : Mod S a (w.setCell p u) := by
  refine ⟨h.os, h.tape, h.output, by simpa [World.setCell] using h.size, fun i hi hs => (Below.heap_setCell w p u i ?_).trans (h.block i hi hs)⟩
  rintro rfl
  rcases hp with hp | hp
  · exact hs hp
  · omega
theorem Mod.of_below {S : Nat → Prop} {a w : World} (h : Below a.heap.size a w) : Mod S a w := ⟨h.os, h.tape, h.output, h.size, fun i hi _ => h.block i hi⟩
theorem Mod.below {S : Nat → Prop} {a w : World} {B : Nat} (h : Mod S a w) (hB : B ≤ a.heap.size) (hS : ∀ k, S k → B ≤ k) : Below B a w :=
  ⟨h.os, h.tape, h.output, h.size, fun i hi => h.block i (by omega) fun hh => by have := hS i hh; omega⟩
theorem Mod.grown {S : Nat → Prop} {a w w' : World} {row : Option Nat} (h : Mod S a w) (hg : w.grownBy w' row) (hr : ∀ k, row = some k → S k ∨ a.heap.size ≤ k) : Mod S a w' := by
  refine ⟨hg.os.trans h.os, hg.tape.trans h.tape, hg.output.trans h.output, Nat.le_trans h.size hg.size, fun i hi hs => (hg.block i (Nat.lt_of_lt_of_le hi h.size) fun e => ?_).trans (h.block i hi hs)⟩
  rcases hr i e.symm with h1 | h1
  · exact hs h1
  · omega
theorem Mod.rd {S : Nat → Prop} {w w' : World} {A : Option Addr} {n : Nat} {f : Nat → Value} (h : Rd w A n f) (hm : Mod S w w') (hA : ∀ a, A = some a → 0 < n → ¬ S a.block) : Rd w' A n f := by
  intro hn
  obtain ⟨b, off, e, hb, hc⟩ := h hn
  refine ⟨b, off, e, Nat.lt_of_lt_of_le hb hm.size, fun j hj => ?_⟩
  rw [← hc j hj]
  exact World.cell?_of_block (w := w) (hm.block b hb (hA _ e hn))

/-- Block b is just these values, of element type t. -/
def Arr (w : World) (t : TypeId) (b : Nat) (vs : List Value) : Prop := w.heap[b]? = some (.cells vs.toArray t (0, 0))
theorem Arr.lt {w : World} {t : TypeId} {b : Nat} {vs : List Value} (h : Arr w t b vs) : b < w.heap.size := (Array.getElem?_eq_some_iff.1 h).1
theorem Arr.cell? {w : World} {t : TypeId} {b : Nat} {vs : List Value} (h : Arr w t b vs) (j : Nat) : w.cell? ⟨b, j, none⟩ = vs[j]? := by
  rw [cell_of_row w b j _ _ _ h]; simp
theorem Arr.free {w : World} {t : TypeId} {b : Nat} {vs : List Value} (h : Arr w t b vs) (j : Nat) : w.frozen? ⟨b, j, none⟩ = false := by
  unfold Arr at h; simp [World.frozen?, h]
theorem Arr.keep {w w' : World} {t : TypeId} {b : Nat} {vs : List Value} (h : Arr w t b vs) (h1 : w'.heap[b]? = w.heap[b]?) : Arr w' t b vs := h1.trans h
theorem Arr.mod {S : Nat → Prop} {w w' : World} {t : TypeId} {b : Nat} {vs : List Value} (h : Arr w t b vs) (hm : Mod S w w') (hb : ¬ S b) : Arr w' t b vs := h.keep (hm.block b h.lt hb)
theorem Arr.below {w w' : World} {t : TypeId} {b B : Nat} {vs : List Value} (h : Arr w t b vs) (hb : Below B w w') (hB : b < B) : Arr w' t b vs := h.keep (hb.block b hB)
theorem Arr.new (w : World) (t : TypeId) (vs : List Value) : Arr (w.alloc (.cells vs.toArray t)) t w.heap.size vs := heap_alloc_new w _
theorem Arr.set_ {w : World} {t : TypeId} {b : Nat} {vs : List Value} (h : Arr w t b vs) (j : Nat) (u : Value) : Arr (w.setCell ⟨b, j, none⟩ u) t b (vs.set j u) := by
  unfold Arr at h ⊢
  simp [World.setCell, Array.getElem?_modify, h]
theorem Arr.rd {w : World} {t : TypeId} {b : Nat} {vs : List Value} (h : Arr w t b vs) (f : Nat → Value) (hf : ∀ j, j < vs.length → vs[j]? = some (f j)) : Rd w (some ⟨b, 0, none⟩) vs.length f :=
  fun _ => ⟨b, 0, rfl, h.lt, fun j hj => by rw [Nat.zero_add, h.cell?, hf j hj]⟩
/-- Block b is just these numbers. -/
def IA (w : World) (t : TypeId) (b : Nat) (l : List Nat) : Prop := Arr w t b (l.map fun x : Nat => Value.int .i64 x)
theorem IA.arr {w : World} {t : TypeId} {b : Nat} {l : List Nat} (h : IA w t b l) : Arr w t b (l.map fun x : Nat => Value.int .i64 x) := h
theorem IA.cell {w : World} {t : TypeId} {b : Nat} {l : List Nat} (h : IA w t b l) {j : Nat} (hj : j < l.length) : w.cell? ⟨b, j, none⟩ = some (.int .i64 (nth l j : Nat)) := by
  rw [h.arr.cell?]; simp [hj, nth_eq hj]
theorem IA.free {w : World} {t : TypeId} {b : Nat} {l : List Nat} (h : IA w t b l) (j : Nat) : w.frozen? ⟨b, j, none⟩ = false := h.arr.free j
theorem IA.lt {w : World} {t : TypeId} {b : Nat} {l : List Nat} (h : IA w t b l) : b < w.heap.size := h.arr.lt
theorem IA.mod {S : Nat → Prop} {w w' : World} {t : TypeId} {b : Nat} {l : List Nat} (h : IA w t b l) (hm : Mod S w w') (hb : ¬ S b) : IA w' t b l := h.arr.mod hm hb
theorem IA.set_ {w : World} {t : TypeId} {b : Nat} {l : List Nat} (h : IA w t b l) (j x : Nat) : IA (w.setCell ⟨b, j, none⟩ (.int .i64 x)) t b (l.set j x) := by
  have := h.arr.set_ j (.int .i64 x)
  unfold IA
  rw [List.map_set]; exact this
theorem IA.zeros (w : World) (t : TypeId) (n : Nat) : IA (w.alloc (.cells (zeros n (.int .i64 0)) t)) t w.heap.size (List.replicate n 0) := by
  have := Arr.new w t (List.replicate n (Value.int .i64 0))
  unfold IA
  rw [List.map_replicate]; exact this
theorem IA.rd {w : World} {t : TypeId} {b : Nat} {l : List Nat} (h : IA w t b l) : Rd w (some ⟨b, 0, none⟩) l.length (fun j => .int .i64 (nth l j : Nat)) :=
  fun _ => ⟨b, 0, rfl, h.lt, fun j hj => by rw [Nat.zero_add]; exact h.cell hj⟩
theorem nth_set {l : List Nat} {j x : Nat} (hj : j < l.length) (i : Nat) : nth (l.set j x) i = if i = j then x else nth l i := by
  unfold nth
  rw [List.getD_eq_getElem?_getD, List.getElem?_set]
  by_cases h : i = j
  · subst h; simp [hj]
  · simp [h, Ne.symm h, List.getD_eq_getElem?_getD]
theorem nth_replicate (n x i : Nat) : nth (List.replicate n x) i = if i < n then x else 0 := by
  unfold nth
  rw [List.getD_eq_getElem?_getD, List.getElem?_replicate]
  split <;> simp
/-- A bool is returned, of which P holds; nothing that was there has turned. -/
def RetB (P : Bool → Prop) (w : World) (e : Ending) (w' : World) : Prop := ∃ r : Bool, e = .returned (.bool r) ∧ P r ∧ Below w.heap.size w w'
theorem RetB.mk {P : Bool → Prop} {w w' : World} (r : Bool) (hP : P r) (hb : Below w.heap.size w w') : RetB P w (.returned (.bool r)) w' := ⟨r, rfl, hP, hb⟩
theorem Mod.set1 (w : World) (b j : Nat) (u : Value) : Mod (· = b) w (w.setCell ⟨b, j, none⟩ u) := (Mod.refl (S := (· = b)) w).setCell (p := ⟨b, j, none⟩) (.inl rfl) u

theorem i64_ofInt (a : Nat) (ha : a < 9223372036854775808) : (BitVec.ofInt 64 (a : Int)).toNat = a := by
  rw [BitVec.ofInt_natCast, BitVec.toNat_ofNat]; exact Nat.mod_eq_of_lt (by omega)
theorem i64_and (a b : Nat) (ha : a < 9223372036854775808) (hb : b < 9223372036854775808) : bits .and .i64 (a : Int) (b : Int) = ((a &&& b : Nat) : Int) := by
  have hx : a &&& b < 2 ^ 63 := Nat.and_lt_two_pow _ (by omega)
  show IntKind.i64.wrap ((BitVec.ofInt 64 (a : Int) &&& BitVec.ofInt 64 (b : Int)).toNat : Int) = _
  rw [BitVec.toNat_and, i64_ofInt a ha, i64_ofInt b hb, IntKind.wrap_i64]
  omega
theorem i64_or (a b : Nat) (ha : a < 9223372036854775808) (hb : b < 9223372036854775808) : bits .or .i64 (a : Int) (b : Int) = ((a ||| b : Nat) : Int) := by
  have hx : a ||| b < 2 ^ 63 := Nat.or_lt_two_pow (by omega) (by omega)
  show IntKind.i64.wrap ((BitVec.ofInt 64 (a : Int) ||| BitVec.ofInt 64 (b : Int)).toNat : Int) = _
  rw [BitVec.toNat_or, i64_ofInt a ha, i64_ofInt b hb, IntKind.wrap_i64]
  omega
theorem i64_xor (a b : Nat) (ha : a < 9223372036854775808) (hb : b < 9223372036854775808) : bits .xor .i64 (a : Int) (b : Int) = ((a ^^^ b : Nat) : Int) := by
  have hx : a ^^^ b < 2 ^ 63 := Nat.xor_lt_two_pow (by omega) (by omega)
  show IntKind.i64.wrap ((BitVec.ofInt 64 (a : Int) ^^^ BitVec.ofInt 64 (b : Int)).toNat : Int) = _
  rw [BitVec.toNat_xor, i64_ofInt a ha, i64_ofInt b hb, IntKind.wrap_i64]
  omega
theorem nth_map_range (f : Nat → Nat) (n j : Nat) (h : j < n) : nth ((List.range n).map f) j = f j := by
  rw [nth_eq (by simpa using h)]; simp

theorem own_below {w w' : World} {base : Nat} {e : TypeId} {size : Nat} {v : Value} {n : Nat} {xs : List Value} (h : w.ownsRow base e size v n xs) (hb : Below w.heap.size w w') : w'.ownsRow base e size v n xs :=
  h.kept (row := none) ⟨hb.os, hb.tape, hb.output, hb.size, fun k hk _ => hb.block k hk⟩ (by cases v.ownBlock <;> simp)
/-- 'v = append(v, u)' inside a region that draws its order. -/
theorem step_push {P : Program} {W : World} {ops : Array Oper} {o : Oper} {a : Act} {K : Act → World → Prop} {Q : Exit → Act → World → Prop} {E : Prop} (s x : Operand) (t : TypeId)
    (base : Nat) (e : TypeId) (z : Value) (bytes : Nat) (v : Value) (n : Nat) (xs : List Value) (u : Value)
    (hgd : o.guard = none) (ho : o.op = .call { callee := .builtin .append, args := #[s, x], argTypes := #[t, t] })
    (hs : a.eval s = v) (hx : a.eval x = .slice (some ⟨W.heap.size, 0, none⟩) 1 1)
    (ht : P.underlying t = some (.slice e)) (hi : (P.info? e).map (fun i => (i.zero, i.size, i.bytes)) = some (some z, 1, bytes)) (hzs : z.cells.size = 1) (h1 : u.oneCell' = true) (hb : bytes ≤ 64)
    (hown : W.ownsRow base e 1 v n xs) (hn : n < 1099511627776) (hbase : base ≤ W.heap.size)
    (h : ∀ v' w', w'.ownsRow base e 1 v' (n + 1) (xs ++ [u]) → W.grownBy w' v.ownBlock → Below base W w' → K (a.put o.dst v') w') :
    if Region.wanted o (yielded ops a.tmps) = true then Oper.wp P o a (W.alloc (.cells #[u] e)) K Q else E := by
  have hw : Region.wanted o (yielded ops a.tmps) = true := by simp [Region.wanted, hgd]
  rw [if_pos hw]
  obtain ⟨i0, hi, hz0, hz1, hz2⟩ := info_parts hi
  refine wp_append_own _ s x t ho base e i0 z 1 bytes ht hi hz0 hz1 hz2 hzs (by decide) v n xs hs (hown.alloc _) ⟨W.heap.size, 0, none⟩ 1 1 [u] hx rfl ?_ ?_ ?_ ?_ ?_ ?_
  · intro j u' hu
    have : j = 0 := by
      rcases Nat.eq_zero_or_pos j with h | h
      · exact h
      · rw [List.getElem?_eq_none (by simp; omega)] at hu; cases hu
    subst this
    simp at hu
    subst hu
    rw [Addr.add_lit, World.cell?_alloc_at _ _ _ _ rfl]
    rfl
  · intro u' hu
    simp at hu
    subst hu
    exact h1
  · unfold maxLen; omega
  · have : (n + 1) * bytes ≤ 1099511627776 * 64 := Nat.mul_le_mul (by omega) hb
    omega
  · simp; omega
  · intro v' w' g1 g2 _
    have g3 : W.grownBy w' v.ownBlock :=
      ⟨g2.os, g2.tape, g2.output, Nat.le_trans (by simp) g2.size, fun k hk hne => (g2.block k (by simp; omega) hne).trans (Below.heap_alloc W _ k hk)⟩
    exact h v' w' g1 g3 ((Below.refl _ _).grown g3 hbase fun k hk => (hown.lt k hk).1)
theorem own_ne_arr {w : World} {base : Nat} {e t : TypeId} {size n g : Nat} {v : Value} {xs vs : List Value} (h : w.ownsRow base e size v n xs) (ha : Arr w t g vs) (hne : e ≠ t) : some g ≠ v.ownBlock := by
  rcases h.2 with ⟨rfl, _⟩ | ⟨g', cap, cur, rfl, _, hh, _⟩
  · simp [Value.ownBlock]
  · intro he
    have : g = g' := by simpa [Value.ownBlock] using he
    subst this
    unfold Arr at ha
    rw [hh] at ha
    injection ha with ha
    injection ha with _ ht
    exact hne ht
end Go.Qz
