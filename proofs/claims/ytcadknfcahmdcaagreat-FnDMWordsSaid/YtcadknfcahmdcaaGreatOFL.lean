/-
  Rows that grow by append from any place of their block, with the place where they lie. No condition beyond the bounds that each theorem states.
-/
import Derived.Test.YtcadknfcahmdcaaGreatGRD
import Derived.Laws.CopyOwn
namespace Go.Qz
open Go.RowKit
set_option linter.unusedVariables false

/-- A slice of one-cell values in block g, from a place of it on. -/
def Off (w : World) (base : Nat) (e : TypeId) (v : Value) (n : Nat) (xs : List Value) : Prop :=
  ∃ g off cap cur, v = .slice (some ⟨g, off, none⟩) n cap ∧ base ≤ g ∧ w.heap[g]? = some (.cells cur e (0, 0)) ∧ n ≤ cap ∧ cap ≤ maxLen ∧ off + cap ≤ cur.size ∧ xs.length = n ∧ (cur.toList.drop off).take n = xs
theorem Off.cells {w : World} {base : Nat} {e : TypeId} {g off n cap : Nat} {xs : List Value} (h : Off w base e (.slice (some ⟨g, off, none⟩) n cap) n xs) : ∀ j u, xs[j]? = some u → w.cell? ⟨g, off + j, none⟩ = some u := by
  intro j u hu
  obtain ⟨g', off', cap', cur, e1, hb, hh, hc, hm, hz, hl, ht⟩ := h
  injection e1 with e1 e2 e3
  injection e1 with e1
  injection e1 with e4 e5 e6
  subst e4 e5 e3
  rw [cell_of_row w g (off + j) cur e (0, 0) hh]
  rw [← ht, List.getElem?_take] at hu
  split at hu
  · rw [List.getElem?_drop] at hu; simpa using hu
  · cases hu
theorem run_append_offL {P : Program} (w : World) (base : Nat) (t ty e : TypeId) (i : TypeInfo) (z : Value) (ht : P.underlying t = some (.slice e)) (hi : P.info? e = some i) (hz : i.zero = some z) (hs1 : i.size = 1) (hzs : z.cells.size = 1) (hb : i.bytes ≤ 64)
    (g off n cap : Nat) (xs : List Value) (hown : Off w base e (.slice (some ⟨g, off, none⟩) n cap) n xs)
    (a : Addr) (m c : Nat) (news : List Value) (hl : news.length = m) (hnews : ∀ j u, news[j]? = some u → w.cell? (a.add j) = some u) (h1 : ∀ u ∈ news, u.oneCell' = true) (hn : n + m < 1099511627776) (hbase : base ≤ w.heap.size) :
    ∃ v' w', (Builtin.append_ #[t, t] ty #[.slice (some ⟨g, off, none⟩) n cap, .slice (some a) m c]).run P w = .ok v' w' ∧ Off w' base e v' (n + m) (xs ++ news) ∧ w.grownBy w' (some g) ∧ (v'.ownBlock = some g ∨ v'.ownBlock = some w.heap.size) := by
  have hcells := hown.cells
  obtain ⟨g', off', cap', cur, e1, hbg, hh, hnc, hcm, hcs, hxl, htk⟩ := hown
  injection e1 with e1 e2 e3
  injection e1 with e1
  injection e1 with e4 e5 e6
  subst e4 e5 e3
  have hbytes : (n + m) * i.bytes ≤ 140737488355328 := by
    have : (n + m) * i.bytes ≤ 1099511627776 * 64 := Nat.mul_le_mul (by omega) hb
    omega
  by_cases hroom : n + m ≤ cap
  · have hf := run_firstCells_some (P := P) w 1 m a m c news (by omega) hnews
    have hst := run_storeCells_at P g (off + n) e news 0 cur w hh (by omega) h1
    simp only [Nat.add_zero] at hst
    refine ⟨.slice (some ⟨g, off, none⟩) (n + m) cap, w.setRow g (cur.toList.take (off + n) ++ news ++ cur.toList.drop (off + n + news.length)).toArray, ?_, ⟨g, off, cap, _, rfl, hbg, setRow_heap w g cur _ e _ hh, hroom, hcm, ?_, ?_, ?_⟩, ⟨rfl, rfl, rfl, by simp, fun k _ hk => setRow_other w g k _ (fun e => hk (by rw [e]))⟩, .inl rfl⟩
    · simp [Builtin.append_, run_underlying ht, sizeOf, typeInfo, hi, hs1, Builtin.lenOf, hroom, hf, Addr.add_lit, hst]
    · simp only [List.size_toArray, List.length_append, List.length_take, List.length_drop, Array.length_toList]
      omega
    · rw [List.length_append]; omega
    · have hlt : (cur.toList.take (off + n)).length = off + n := by rw [List.length_take, Array.length_toList]; omega
      rw [List.drop_append_of_le_length (by rw [List.length_append]; omega), List.drop_append_of_le_length (by omega), List.take_append_of_le_length (by rw [List.length_append, List.length_drop]; omega), List.drop_take, show off + n - off = n by omega, htk, List.take_of_length_le (by rw [List.length_append]; omega)]
  · have hr := run_append_grow (P := P) w t ty e i z ht hi hz ⟨g, off, none⟩ n cap xs (by rw [hs1]; omega) (fun j u hu => by rw [Addr.add_lit]; exact hcells j u hu) a m c news (by rw [hs1]; omega) hnews (by omega) (by omega) (growslice_fits (by omega) hbytes)
    have hge := grownCap_ge w (n + m) cap e
    have hcm2 : grownCap w (n + m) cap e ≤ maxLen := grownCap_le_maxLen w (n + m) cap e (by unfold maxLen; omega)
    refine ⟨_, _, hr, ⟨w.heap.size, 0, _, _, rfl, hbase, heap_alloc_new w.drew _, hge, hcm2, ?_, ?_, ?_⟩, ⟨rfl, rfl, rfl, by simp, fun k hk _ => Below.heap_alloc w.drew _ k hk⟩, .inr rfl⟩
    · simp only [Array.size_append, List.size_toArray, size_zeroCells, hzs]
      omega
    · rw [List.length_append]; omega
    · simp only [Array.toList_append, List.append_assoc, List.drop_zero]
      rw [← List.append_assoc, List.take_append_of_le_length (by rw [List.length_append]; omega), List.take_of_length_le (by rw [List.length_append]; omega)]
/-- The row's block is written, or the row lies in a new one. -/
def Grew (W w' : World) (v v' : Value) : Prop := Mod (fun b => v.ownBlock = some b) W w' ∧ (v'.ownBlock = v.ownBlock ∨ ∃ b, v'.ownBlock = some b ∧ W.heap.size ≤ b)
theorem Off.block {w : World} {base : Nat} {e : TypeId} {v : Value} {n : Nat} {xs : List Value} (h : Off w base e v n xs) : ∃ g off cap, v = .slice (some ⟨g, off, none⟩) n cap ∧ v.ownBlock = some g ∧ g < w.heap.size ∧ base ≤ g ∧ (∃ cur, w.heap[g]? = some (.cells cur e (0, 0))) := by
  obtain ⟨g, off, cap, cur, rfl, hb, hh, _⟩ := h
  exact ⟨g, off, cap, rfl, rfl, (Array.getElem?_eq_some_iff.1 hh).1, hb, cur, hh⟩
theorem Off.mod {S : Nat → Prop} {w w' : World} {base : Nat} {e : TypeId} {v : Value} {n : Nat} {xs : List Value} (h : Off w base e v n xs) (hm : Mod S w w') (hs : ∀ b, v.ownBlock = some b → ¬ S b) : Off w' base e v n xs := by
  obtain ⟨g, off, cap, cur, rfl, hb, hh, hc, hmx, hz, hl, ht⟩ := h
  exact ⟨g, off, cap, cur, rfl, hb, (hm.block g (Array.getElem?_eq_some_iff.1 hh).1 (hs g rfl)).trans hh, hc, hmx, hz, hl, ht⟩
theorem Off.alloc {w : World} {base : Nat} {e : TypeId} {v : Value} {n : Nat} {xs : List Value} (h : Off w base e v n xs) (o : Obj) : Off (w.alloc o) base e v n xs :=
  h.mod (Mod.alloc (Mod.refl (S := fun _ => False) w) o) fun _ _ h => h
theorem Off.len {w : World} {base : Nat} {e : TypeId} {v : Value} {n : Nat} {xs : List Value} (h : Off w base e v n xs) : xs.length = n := by
  obtain ⟨g, off, cap, cur, rfl, hb, hh, hc, hmx, hz, hl, ht⟩ := h; exact hl
/-- The row without its first k; its first k. -/
theorem Off.drop {w : World} {base : Nat} {e : TypeId} {g off cap n k : Nat} {xs : List Value} (h : Off w base e (.slice (some ⟨g, off, none⟩) n cap) n xs) (hk : k ≤ n) : Off w base e (.slice (some ⟨g, off + k, none⟩) (n - k) (cap - k)) (n - k) (xs.drop k) := by
  obtain ⟨g', off', cap', cur, e1, hb, hh, hc, hm, hz, hl, ht⟩ := h
  injection e1 with e1 e2 e3
  injection e1 with e1
  injection e1 with e4 e5 e6
  subst e4 e5 e3
  refine ⟨g, off + k, cap - k, cur, rfl, hb, hh, by omega, by omega, by omega, by rw [List.length_drop, hl], ?_⟩
  rw [← ht, List.drop_take, List.drop_drop]
theorem Off.drop0 {w : World} {base : Nat} {e : TypeId} {g off n k : Nat} {xs : List Value} (h : Off w base e (.slice (some ⟨g, off, none⟩) n k) n xs) (hk : k ≤ n) : Off w base e (.slice (some ⟨g, off, none⟩) (n - k) 0) (n - k) (xs.drop k) := by
  obtain ⟨g', off', cap', cur, e1, hb, hh, hc, hm, hz, hl, ht⟩ := h
  injection e1 with e1 e2 e3
  injection e1 with e1
  injection e1 with e4 e5 e6
  subst e4 e5 e3
  obtain rfl : n = k := by omega
  refine ⟨g, off, 0, cur, rfl, hb, hh, by omega, by omega, by omega, by rw [List.length_drop, hl], ?_⟩
  rw [Nat.sub_self, List.take_zero, List.drop_eq_nil_of_le (by omega)]
theorem Off.take {w : World} {base : Nat} {e : TypeId} {g off cap n k : Nat} {xs : List Value} (h : Off w base e (.slice (some ⟨g, off, none⟩) n cap) n xs) (hk : k ≤ n) : Off w base e (.slice (some ⟨g, off, none⟩) k cap) k (xs.take k) := by
  obtain ⟨g', off', cap', cur, e1, hb, hh, hc, hm, hz, hl, ht⟩ := h
  injection e1 with e1 e2 e3
  injection e1 with e1
  injection e1 with e4 e5 e6
  subst e4 e5 e3
  refine ⟨g, off, cap, cur, rfl, hb, hh, by omega, hm, hz, by rw [List.length_take, hl]; omega, ?_⟩
  rw [← ht, List.take_take, Nat.min_eq_left hk]
theorem off_make0 (w : World) (e : TypeId) (z : Value) (n base : Nat) (hb : base ≤ w.heap.size) (hn : n ≤ maxLen) : Off (w.alloc (.cells (zeros n z) e)) base e (.slice (some ⟨w.heap.size, 0, none⟩) 0 n) 0 [] :=
  ⟨w.heap.size, 0, n, zeros n z, rfl, hb, heap_alloc_new w _, by omega, hn, by simp [zeros], rfl, by simp⟩
theorem Grew.of {W w' : World} {g : Nat} {v v' : Value} (hv : v.ownBlock = some g) (hg : W.grownBy w' (some g)) (hl : v'.ownBlock = some g ∨ v'.ownBlock = some W.heap.size) : Grew W w' v v' := by
  refine ⟨⟨hg.os, hg.tape, hg.output, hg.size, fun i hi hs => hg.block i hi (fun e => hs (by rw [hv]; exact e.symm))⟩, ?_⟩
  rcases hl with hl | hl
  · left; rw [hl, hv]
  · right; exact ⟨_, hl, Nat.le_refl _⟩
/-- 'v = append(v, u)', behind the new block that holds u. -/
theorem wpList_pushL {P : Program} {W : World} {ops : Array Oper} {rest : List Oper} {o : Oper} {a : Act} {Q : Exit → Act → World → Prop} (s x : Operand) (t : TypeId)
    (base : Nat) (e : TypeId) (z : Value) (bytes : Nat) (v : Value) (n : Nat) (xs : List Value) (u : Value)
    (hgd : o.guard = none) (ho : o.op = .call { callee := .builtin .append, args := #[s, x], argTypes := #[t, t] })
    (hs : a.eval s = v) (hx : a.eval x = .slice (some ⟨W.heap.size, 0, none⟩) 1 1)
    (ht : P.underlying t = some (.slice e)) (hi : (P.info? e).map (fun i => (i.zero, i.size, i.bytes)) = some (some z, 1, bytes)) (hzs : z.cells.size = 1) (h1 : u.oneCell' = true) (hb : bytes ≤ 64)
    (hown : Off W base e v n xs) (hn : n < 1000000000) (hbase : base ≤ W.heap.size)
    (h : ∀ v' w', Off w' base e v' (n + 1) (xs ++ [u]) → Grew W w' v v' → wpList P ops Q rest (a.put o.dst v') w') :
    wpList P ops Q (o :: rest) a (W.alloc (.cells #[u] e)) := by
  obtain ⟨i0, hi, hz0, hz1, hz2⟩ := info_parts hi
  obtain ⟨g, off, cap, rfl, hob, hgl, _⟩ := hown.block
  obtain ⟨v', w', hrun, h2, h3, h4⟩ := run_append_offL (P := P) (W.alloc (.cells #[u] e)) base t o.type e i0 z ht hi hz0 hz1 hzs (by omega) g off n cap xs (hown.alloc _) ⟨W.heap.size, 0, none⟩ 1 1 [u] rfl (by
      intro j u' hu
      have : j = 0 := by
        rcases Nat.eq_zero_or_pos j with h | h
        · exact h
        · rw [List.getElem?_eq_none (by simp; omega)] at hu; cases hu
      subst this
      simp at hu
      subst hu
      rw [Addr.add_lit, World.cell?_alloc_at _ _ _ _ rfl]
      rfl) (by
      intro u' hu
      simp at hu
      subst hu
      exact h1) (by omega) (by simp; omega)
  have hA : W.grownBy w' (some g) := ⟨h3.os, h3.tape, h3.output, Nat.le_trans (by simp) h3.size, fun k hk hne => (h3.block k (by simp; omega) hne).trans (Below.heap_alloc W _ k hk)⟩
  refine wpList_plain hgd fun K hK => ?_
  unfold Oper.wp execOp
  simp only [ho, resolve, invoke, builtin, Sem.run_bind, Sem.run_pure, Result.andThen_ok, List.map_toArray, List.map_cons, List.map_nil, hs, hx, hrun]
  refine hK _ _ (h v' w' h2 ⟨⟨hA.os, hA.tape, hA.output, hA.size, fun i hi hs => hA.block i hi (fun e => hs e.symm)⟩, ?_⟩)
  rcases h4 with h4 | h4
  · exact .inl h4
  · exact .inr ⟨_, h4, by simp⟩
/-- 'v = append(v, xs...)', xs read as f. -/
theorem wpList_copyL {P : Program} {W : World} {ops : Array Oper} {rest : List Oper} {o : Oper} {a : Act} {Q : Exit → Act → World → Prop} (s x : Operand) (t : TypeId)
    (base : Nat) (e : TypeId) (z : Value) (bytes : Nat) (v : Value) (n : Nat) (xs : List Value) (b off2 m c : Nat) (news : List Value)
    (hgd : o.guard = none) (ho : o.op = .call { callee := .builtin .append, args := #[s, x], argTypes := #[t, t] })
    (hs : a.eval s = v) (hx : a.eval x = .slice (some ⟨b, off2, none⟩) m c)
    (ht : P.underlying t = some (.slice e)) (hi : (P.info? e).map (fun i => (i.zero, i.size, i.bytes)) = some (some z, 1, bytes)) (hzs : z.cells.size = 1) (h1 : ∀ u ∈ news, u.oneCell' = true) (hb : bytes ≤ 64)
    (hown : Off W base e v n xs) (hl : news.length = m) (hr : ∀ j u, news[j]? = some u → W.cell? ⟨b, off2 + j, none⟩ = some u) (hn : n + m < 1000000000) (hbase : base ≤ W.heap.size)
    (h : ∀ v' w', Off w' base e v' (n + m) (xs ++ news) → Grew W w' v v' → wpList P ops Q rest (a.put o.dst v') w') :
    wpList P ops Q (o :: rest) a W := by
  obtain ⟨i0, hi, hz0, hz1, hz2⟩ := info_parts hi
  obtain ⟨g, off, cap, rfl, hob, hgl, _⟩ := hown.block
  obtain ⟨v', w', hrun, h2, h3, h4⟩ := run_append_offL (P := P) W base t o.type e i0 z ht hi hz0 hz1 hzs (by omega) g off n cap xs hown ⟨b, off2, none⟩ m c news hl (fun j u hu => by rw [Addr.add_lit]; exact hr j u hu) h1 (by omega) hbase
  refine wpList_plain hgd fun K hK => ?_
  unfold Oper.wp execOp
  simp only [ho, resolve, invoke, builtin, Sem.run_bind, Sem.run_pure, Result.andThen_ok, List.map_toArray, List.map_cons, List.map_nil, hs, hx, hrun]
  exact hK _ _ (h v' w' h2 (Grew.of rfl h3 h4))
end Go.Qz
