/-
  Several texts of this claim in one. No condition beyond the bounds that each theorem states.
-/
import Derived.Test.YtcadknfcahmdcaaGreatBase
import Derived.Maps.AppendAt
import Derived.Laws.CopyOwn
namespace Go.Qz
open Go.RowKit
set_option linter.unusedVariables false

/-- 'v = append(v, u)' onto a row of the call's own: behind the new block that holds u; where it lies. -/
theorem wpList_pushAt {P : Program} {W : World} {ops : Array Oper} {rest : List Oper} {o : Oper} {a : Act} {Q : Exit → Act → World → Prop} (s x : Operand) (t : TypeId)
    (base : Nat) (e : TypeId) (z : Value) (bytes : Nat) (v : Value) (n : Nat) (xs : List Value) (u : Value)
    (hgd : o.guard = none) (ho : o.op = .call { callee := .builtin .append, args := #[s, x], argTypes := #[t, t] })
    (hs : a.eval s = v) (hx : a.eval x = .slice (some ⟨W.heap.size, 0, none⟩) 1 1)
    (ht : P.underlying t = some (.slice e)) (hi : (P.info? e).map (fun i => (i.zero, i.size, i.bytes)) = some (some z, 1, bytes)) (hzs : z.cells.size = 1) (h1 : u.oneCell' = true) (hb : bytes ≤ 64)
    (hown : W.ownsRow base e 1 v n xs) (hn : n < 1099511627776) (hbase : base ≤ W.heap.size)
    (h : ∀ v' w', w'.ownsRow base e 1 v' (n + 1) (xs ++ [u]) → W.grownBy w' v.ownBlock → Below base W w' → (v'.ownBlock = v.ownBlock ∨ v'.ownBlock = some (W.heap.size + 1)) → wpList P ops Q rest (a.put o.dst v') w') :
    wpList P ops Q (o :: rest) a (W.alloc (.cells #[u] e)) := by
  obtain ⟨i0, hi, hz0, hz1, hz2⟩ := info_parts hi
  refine wpList_append_own_at _ hgd s x t ho base e i0 z 1 bytes ht hi hz0 hz1 hz2 hzs (by decide) v n xs hs (hown.alloc _) ⟨W.heap.size, 0, none⟩ 1 1 [u] hx rfl ?_ ?_ ?_ ?_ ?_ ?_
  · intro j u' hu
    have : j = 0 := by
      rcases Nat.eq_zero_or_pos j with h | h
      · exact h
      · rw [List.getElem?_eq_none (by simp; omega)] at hu; cases hu
    subst this
    simp at hu
    subst hu
    rw [Addr.add_lit, World.cell?_alloc_at _ _ _ _ rfl]
    rfl
  · intro u' hu
    simp at hu
    subst hu
    exact h1
  · unfold maxLen; omega
  · have : (n + 1) * bytes ≤ 1099511627776 * 64 := Nat.mul_le_mul (by omega) hb
    omega
  · simp; omega
  · intro v' w' g1 g2 _ g4
    have g3 : W.grownBy w' v.ownBlock :=
      ⟨g2.os, g2.tape, g2.output, Nat.le_trans (by simp) g2.size, fun k hk hne => (g2.block k (by simp; omega) hne).trans (Below.heap_alloc W _ k hk)⟩
    exact h v' w' g1 g3 ((Below.refl _ _).grown g3 hbase fun k hk => (hown.lt k hk).1) (by simpa using g4)
theorem Mod.of_belowE {B : Nat} {a w : World} (h : Below B a w) : Mod (fun k => B ≤ k) a w := ⟨h.os, h.tape, h.output, h.size, fun i _ hs => h.block i (by omega)⟩
theorem Mod.of_grown {w w' : World} {row : Option Nat} (hg : w.grownBy w' row) : Mod (fun k => row = some k) w w' :=
  ⟨hg.os, hg.tape, hg.output, hg.size, fun i hi hs => hg.block i hi (fun e => hs e.symm)⟩
/-- A row of the call's own stays where neither its block is written. -/
theorem own_mod {S : Nat → Prop} {w w' : World} {base : Nat} {e : TypeId} {size n : Nat} {v : Value} {xs : List Value} (h : w.ownsRow base e size v n xs) (hm : Mod S w w') (hs : ∀ k, v.ownBlock = some k → ¬ S k) : w'.ownsRow base e size v n xs := by
  obtain ⟨h1, h2⟩ := h
  refine ⟨h1, ?_⟩
  rcases h2 with h2 | ⟨g, cap, cur, rfl, hb, hh, hc, hm2, hz, ht⟩
  · exact .inl h2
  · exact .inr ⟨g, cap, cur, rfl, hb, (hm.block g (Array.getElem?_eq_some_iff.1 hh).1 (hs g rfl)).trans hh, hc, hm2, hz, ht⟩
end Go.Qz
namespace Go.Qz
open Go.RowKit
set_option linter.unusedVariables false

theorem Mod.setRow (w : World) (g : Nat) (cs : Array Value) : Mod (· = g) w (w.setRow g cs) :=
  ⟨rfl, rfl, rfl, by simp [World.setRow], fun k hk hs => setRow_other w g k cs (fun e => hs e)⟩
/-- 'copy(d, s)', d in a row that is known whole: only this row's block turns. -/
theorem wpList_copy_mod {P : Program} {w : World} {ops : Array Oper} {rest : List Oper} {o : Oper} {a : Act} {Q : Exit → Act → World → Prop} (hgd : o.guard = none) (d s : Operand) (dT sT : TypeId)
    (ho : o.op = .call { callee := .builtin .copy, args := #[d, s], argTypes := #[dT, sT] }) (elem : TypeId) (hu : P.underlying dT = some (.slice elem)) (hsz : (P.info? elem).map (·.size) = some 1)
    (dp sp : Option Addr) (dLen dCap sLen sCap : Nat) (hd : a.eval d = .slice dp dLen dCap) (hs : a.eval s = .slice sp sLen sCap)
    (g off : Nat) (cur : List Value) (t : TypeId) (hg : Arr w t g cur) (cs : List Value) (hn : cs.length = Nat.min sLen dLen)
    (hpos : 0 < cs.length → dp = some ⟨g, off, none⟩ ∧ ∃ ad, sp = some ad ∧ ∀ j v, cs[j]? = some v → w.cell? (ad.add j) = some v)
    (hfit : off + cs.length ≤ cur.length) (h1 : ∀ v ∈ cs, v.oneCell' = true)
    (h : ∀ w', Hid (Arr w' t g (splice cur off cs)) → Hid (Mod (· = g) w w') → wpList P ops Q rest (a.put o.dst (goInt cs.length)) w') :
    wpList P ops Q (o :: rest) a w := by
  by_cases h0 : cs.length = 0
  · obtain rfl : cs = [] := List.eq_nil_of_length_eq_zero h0
    refine wpList_copy_nothing hgd d s dT sT ho elem hu hsz dp sp dLen dCap sLen sCap hd hs (by simpa using hn.symm) ?_
    refine h w (Lib.hid ?_) (Lib.hid (Mod.refl _))
    have e : splice cur off [] = cur := by simp [splice]
    rw [e]; exact hg
  · obtain ⟨rfl, ad, rfl, hsrc⟩ := hpos (by omega)
    refine wpList_copy_own hgd d s dT sT ho elem hu hsz g off dLen dCap ad sLen sCap hd hs cur.toArray t hg cs hn hsrc (by simpa using hfit) h1 ?_
    refine h _ (Lib.hid ?_) (Lib.hid (Mod.setRow _ _ _))
    have e := setRow_heap w g cur.toArray (cur.toArray.toList.take off ++ (cs ++ cur.toArray.toList.drop (off + cs.length))).toArray t _ hg
    unfold Arr
    rw [e]
    simp [splice]
/-- 'make([]T, 0, n)', T of one cell: an equation for every world. -/
theorem run_make0 {P : Program} (t e : TypeId) (z : Value) (bytes : Nat) (ht : P.underlying t = some (.slice e)) (hi : (P.info? e).map (fun i => (i.zero, i.size, i.bytes)) = some (some z, 1, bytes)) (hz : z.cells = #[z]) (hb : bytes ≤ 64)
    (n : Nat) (hn : n < 1099511627776) (kl kc : IntKind) (L : Int) (hL : L = n) (w : World) :
    (Instr.makeSlice t (.int kl 0) (.int kc L)).run P w = .ok (.slice (some ⟨w.heap.size, 0, none⟩) 0 n) (w.alloc (.cells (zeros n z) e)) := by
  obtain ⟨i0, hi, hz0, hz1, hz2⟩ := info_parts hi
  subst hL
  have h1 : (i0.bytes : Int) * (n : Int) ≤ 281474976710656 := by
    have : i0.bytes * n ≤ 64 * 1099511627776 := Nat.mul_le_mul (by omega) (by omega)
    rw [← Int.natCast_mul]; omega
  have h := run_make (P := P) w t e i0 z ht hi hz0 kl kc 0 (n : Int) (by omega) (by omega) h1 (by omega)
  rw [h, Int.toNat_natCast, hz1, Nat.mul_one, hz, madeCells_one]
  rfl
/-- A new row of no elements is the call's own. -/
theorem own_make0 (w : World) (e : TypeId) (z : Value) (n base : Nat) (hb : base ≤ w.heap.size) (hn : n ≤ maxLen) : (w.alloc (.cells (zeros n z) e)).ownsRow base e 1 (.slice (some ⟨w.heap.size, 0, none⟩) 0 n) 0 [] :=
  ⟨rfl, .inr ⟨w.heap.size, n, zeros n z, rfl, hb, heap_alloc_new w _, by omega, hn, by simp [zeros], by simp⟩⟩
end Go.Qz
namespace Go.Qz
open Go.RowKit
set_option linter.unusedVariables false

/-- The headers of rows, so far: row r lies in block R + 1 + r. -/
def hdr (R W H k : Nat) : List Value := (List.range H).map fun r => if r < k then Value.slice (some ⟨R + 1 + r, 0, none⟩) W W else .slice none 0 0
theorem hdr_get (R W H k r : Nat) (hr : r < H) : (hdr R W H k)[r]? = some (if r < k then Value.slice (some ⟨R + 1 + r, 0, none⟩) W W else .slice none 0 0) := by
  simp [hdr, hr]
theorem hdr_set (R W H k : Nat) : (hdr R W H k).set k (.slice (some ⟨R + 1 + k, 0, none⟩) W W) = hdr R W H (k + 1) := by
  apply List.ext_getElem (by simp [hdr])
  intro j h1 h2
  simp only [hdr, List.getElem_set, List.getElem_map, List.getElem_range]
  by_cases e : k = j
  · subst e; rw [if_pos rfl, if_pos (by omega)]
  · rw [if_neg e]
    by_cases h : j < k
    · rw [if_pos h, if_pos (by omega)]
    · rw [if_neg h, if_neg (by omega)]
theorem hdr_zero (R W H : Nat) : (hdr R W H 0) = List.replicate H (.slice none 0 0) := by
  apply List.ext_getElem (by simp [hdr])
  intro j h1 h2
  simp [hdr]
/-- A row of values. -/
def rowV (f : Nat → Value) (W : Nat) : List Value := (List.range W).map f
theorem rowV_get (f : Nat → Value) (W c : Nat) (h : c < W) : (rowV f W)[c]? = some (f c) := by simp [rowV, h]
theorem rowV_len (f : Nat → Value) (W : Nat) : (rowV f W).length = W := by simp [rowV]
theorem rowV_const (z : Value) (W : Nat) : rowV (fun _ => z) W = List.replicate W z := by
  apply List.ext_getElem (by simp [rowV])
  intro j h1 h2
  simp [rowV]
theorem rowV_set {f g : Nat → Value} {W c : Nat} {v : Value} (h : ∀ j, j < W → g j = if j = c then v else f j) : (rowV f W).set c v = rowV g W := by
  apply List.ext_getElem (by simp [rowV])
  intro j h1 h2
  have hj : j < W := by simpa [rowV] using h2
  simp only [rowV, List.getElem_set, List.getElem_map, List.getElem_range]
  rw [h j hj]
  by_cases e : c = j
  · subst e; simp
  · rw [if_neg e, if_neg (fun h => e h.symm)]
theorem rowV_congr {f g : Nat → Value} {W : Nat} (h : ∀ j, j < W → f j = g j) : rowV f W = rowV g W := List.map_congr_left fun j hj => h j (List.mem_range.1 hj)
/-- A grid that a call made: the headers in block G, row r in block G + 1 + r; the first k rows are there. -/
structure Grid (w : World) (tr te G H W k : Nat) (f : Nat → Nat → Value) : Prop where
  hd : Arr w tr G (hdr G W H k)
  row : ∀ r, r < k → Arr w te (G + 1 + r) (rowV (f r) W)
theorem Grid.mod {S : Nat → Prop} {w w' : World} {tr te G H W k : Nat} {f : Nat → Nat → Value} (h : Grid w tr te G H W k f) (hm : Mod S w w') (hs : ∀ j, G ≤ j → j ≤ G + k → ¬ S j) : Grid w' tr te G H W k f :=
  ⟨h.hd.mod hm (hs G (Nat.le_refl _) (by omega)), fun r hr => (h.row r hr).mod hm (hs _ (by omega) (by omega))⟩
theorem Grid.below {w w' : World} {tr te G H W k : Nat} {f : Nat → Nat → Value} (h : Grid w tr te G H W k f) (hb : Below w.heap.size w w') : Grid w' tr te G H W k f := h.mod (Mod.of_below (S := fun _ => False) hb) (fun _ _ _ h => h)
theorem Grid.congr {w : World} {tr te G H W k : Nat} {f g : Nat → Nat → Value} (h : Grid w tr te G H W k f) (hfg : ∀ r c, r < k → c < W → f r c = g r c) : Grid w tr te G H W k g :=
  ⟨h.hd, fun r hr => by rw [← rowV_congr (fun c hc => hfg r c hr hc)]; exact h.row r hr⟩
theorem Grid.head {w : World} {tr te G H W k : Nat} {f : Nat → Nat → Value} (h : Grid w tr te G H W k f) (r : Nat) (hr : r < k) (hH : r < H) : w.cell? ⟨G, r, none⟩ = some (.slice (some ⟨G + 1 + r, 0, none⟩) W W) := by
  rw [h.hd.cell?, hdr_get _ _ _ _ _ hH, if_pos hr]
theorem Grid.cell {w : World} {tr te G H W k : Nat} {f : Nat → Nat → Value} (h : Grid w tr te G H W k f) (r c : Nat) (hr : r < k) (hc : c < W) : w.cell? ⟨G + 1 + r, c, none⟩ = some (f r c) := by
  rw [(h.row r hr).cell?, rowV_get _ _ _ hc]
theorem Grid.set_ {w : World} {tr te G H W k : Nat} {f g : Nat → Nat → Value} (h : Grid w tr te G H W k f) (r c : Nat) (hr : r < k) (v : Value) (hg : ∀ r' c', r' < k → c' < W → g r' c' = if r' = r ∧ c' = c then v else f r' c') : Grid (w.setCell ⟨G + 1 + r, c, none⟩ v) tr te G H W k g := by
  have hm := Mod.set1 w (G + 1 + r) c v
  refine ⟨h.hd.mod hm (by omega), fun r' hr' => ?_⟩
  by_cases e : r' = r
  · subst e
    have := (h.row r' hr).set_ c v
    rw [rowV_set (g := g r') (fun j hj => by rw [hg r' j hr hj]; by_cases e : j = c <;> simp [e])] at this
    exact this
  · have := (h.row r' hr').mod hm (by omega)
    rw [rowV_congr (g := g r') (fun j hj => by rw [hg r' j hr' hj, if_neg (fun h => e h.1)])] at this
    exact this
/-- A new grid: no row yet. -/
theorem Grid.zero {w : World} (tr te H W : Nat) (f : Nat → Nat → Value) : Grid (w.alloc (.cells (zeros H (.slice none 0 0)) tr)) tr te w.heap.size H W 0 f :=
  ⟨by rw [hdr_zero]; exact Arr.new w tr _, fun r hr => by omega⟩
/-- One more row, all alike, of a new block. -/
theorem Grid.push {w : World} {tr te G H W k : Nat} {f : Nat → Nat → Value} (h : Grid w tr te G H W k f) (z : Value) (hz : ∀ c, c < W → f k c = z) (hs : w.heap.size = G + 1 + k) :
    Grid ((w.alloc (.cells (zeros W z) te)).setCell ⟨G, k, none⟩ (.slice (some ⟨G + 1 + k, 0, none⟩) W W)) tr te G H W (k + 1) f := by
  have hm := (Mod.refl (S := fun _ => False) w).alloc (.cells (zeros W z) te)
  have hm2 := Mod.set1 (w.alloc (.cells (zeros W z) te)) G k (.slice (some ⟨G + 1 + k, 0, none⟩) W W)
  refine ⟨?_, fun r hr => ?_⟩
  · have := (h.hd.mod hm (fun h => h)).set_ k (.slice (some ⟨G + 1 + k, 0, none⟩) W W)
    rw [hdr_set] at this
    exact this
  · by_cases e : r = k
    · subst e
      have := (Arr.new w te (List.replicate W z)).mod hm2 (by omega)
      rw [hs, ← rowV_const] at this
      rw [rowV_congr (g := fun _ => z) (fun c hc => hz c hc)]
      exact this
    · exact ((h.row r (by omega)).mod hm (fun h => h)).mod hm2 (by omega)

/-- Rows of bools that came in: n rows, row r has L r bools. -/
def BRows (w : World) (A : Option Addr) (n : Nat) (L : Nat → Nat) (Z : Nat → Nat → Bool) : Prop :=
  0 < n → ∃ b off, A = some ⟨b, off, none⟩ ∧ b < w.heap.size ∧ ∀ r, r < n → ∃ B C, w.cell? ⟨b, off + r, none⟩ = some (.slice B (L r) C) ∧ L r ≤ C ∧ C ≤ maxLen ∧ Rd w B (L r) (fun c => .bool (Z r c))
theorem BRows.below {w w' : World} {A : Option Addr} {n : Nat} {L : Nat → Nat} {Z : Nat → Nat → Bool} (h : BRows w A n L Z) (hb : Below w.heap.size w w') : BRows w' A n L Z := fun h0 => by
  obtain ⟨b, off, e, hlt, hr⟩ := h h0
  refine ⟨b, off, e, Nat.lt_of_lt_of_le hlt hb.size, fun r hrl => ?_⟩
  obtain ⟨B, C, h1, h2, h3, h4⟩ := hr r hrl
  exact ⟨B, C, (hb.cell (p := ⟨b, off + r, none⟩) hlt).trans h1, h2, h3, h4.below hb⟩
theorem BRows.less {w : World} {A : Option Addr} {n m : Nat} {L : Nat → Nat} {Z : Nat → Nat → Bool} (h : BRows w A n L Z) (hm : m ≤ n) : BRows w A m L Z := fun h0 => by
  obtain ⟨b, off, e, hlt, hr⟩ := h (by omega)
  exact ⟨b, off, e, hlt, fun r hrl => hr r (by omega)⟩
section
open Go.ChangeShapes Go.WideShapes Go.ChangeAt Go.Deep
variable {H : Type} {enc : TypeId × Value → H} {P : Program} {W : World}
theorem rows_in {t e q : TypeId} {a0 : Option Addr} {len0 cap0 : Nat} {d : DataW H} {p : List MemPlace} (ht : P.underlying t = some (.slice e)) (he : P.underlying e = some (.slice q)) (hq : P.underlying q = some .bool) (ce : P.cellsOf e = 1) (cq : P.cellsOf q = 1)
    (h : DataW.Trod enc P W 0 (fun _ => true) true t (.slice a0 len0 cap0) d p) :
    len0 ≤ cap0 ∧ cap0 ≤ maxLen ∧ ∃ (L : Nat → Nat) (Z : Nat → Nat → Bool), BRows W a0 len0 L Z := by
  obtain ⟨fuel, hf⟩ := h
  rcases open_bool_rows ht he hq ce cq hf with ⟨hcs, _⟩ | ⟨a, len, cap, A, L, C, B, hcs, _, hl, hm, _, hx⟩
  · simp [Value.cells] at hcs
    obtain ⟨rfl, rfl, rfl⟩ := hcs
    exact ⟨Nat.le_refl _, by unfold maxLen; omega, fun _ => 0, fun _ _ => false, fun h => by omega⟩
  · simp [Value.cells] at hcs
    obtain ⟨rfl, rfl, rfl⟩ := hcs
    refine ⟨hl, hm, L, B, fun h0 => ?_⟩
    obtain ⟨b, off, spot⟩ := a
    have h1 := (hx 0 (by omega)).1
    have hspot : spot = none := by simpa [Addr.add] using World.cell?_spot h1
    subst hspot
    refine ⟨b, off, rfl, ?_, fun r hr => ?_⟩
    · have := World.block_lt_of_cell? W _ h1
      simpa [Addr.add] using this
    · obtain ⟨h2, h3, h4, h5, h6⟩ := hx r (by omega)
      refine ⟨A r, C r, ?_, h3, h4, fun h7 => ?_⟩
      · rw [← h2]
        unfold Addr.add
        split <;> simp_all
      · rcases hA : A r with _ | a'
        · have := h5 hA; omega
        · obtain ⟨_, h8⟩ := h6 a' hA
          obtain ⟨b', off', spot'⟩ := a'
          have h9 := h8 0 (by omega)
          have hspot : spot' = none := by simpa [Addr.add] using World.cell?_spot h9
          subst hspot
          refine ⟨b', off', rfl, ?_, fun j hj => ?_⟩
          · have := World.block_lt_of_cell? W _ h9
            simpa [Addr.add] using this
          · have h10 := h8 j (by omega)
            rw [← h10]
            unfold Addr.add
            split <;> simp_all
end
end Go.Qz
