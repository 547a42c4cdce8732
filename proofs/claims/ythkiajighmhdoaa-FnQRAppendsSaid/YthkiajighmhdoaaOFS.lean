/-
  'append' onto a slice of the call's own that begins inside its block: a copy behind it, zero values behind it. No condition beyond the bounds that each theorem states.
-/
import Derived.Test.YthkiajighmhdoaaAPZ
namespace Go.Qz
open Go.RowKit
set_option linter.unusedVariables false

/-- A slice of one-cell values in block g, from a place of it on. -/
def Off (w : World) (base : Nat) (e : TypeId) (v : Value) (n : Nat) (xs : List Value) : Prop :=
  ∃ g off cap cur, v = .slice (some ⟨g, off, none⟩) n cap ∧ base ≤ g ∧ w.heap[g]? = some (.cells cur e (0, 0)) ∧ n ≤ cap ∧ cap ≤ maxLen ∧ cur.size = off + cap ∧ xs.length = n ∧ (cur.toList.drop off).take n = xs
theorem Off.cells {w : World} {base : Nat} {e : TypeId} {g off n cap : Nat} {xs : List Value} (h : Off w base e (.slice (some ⟨g, off, none⟩) n cap) n xs) : ∀ j u, xs[j]? = some u → w.cell? ⟨g, off + j, none⟩ = some u := by
  intro j u hu
  obtain ⟨g', off', cap', cur, e1, hb, hh, hc, hm, hz, hl, ht⟩ := h
  injection e1 with e1 e2 e3
  injection e1 with e1
  injection e1 with e4 e5 e6
  subst e4 e5 e3
  rw [cell_of_row w g (off + j) cur e (0, 0) hh]
  rw [← ht, List.getElem?_take] at hu
  split at hu
  · rw [List.getElem?_drop] at hu; simpa using hu
  · cases hu
theorem Off.rd {w : World} {base : Nat} {e : TypeId} {v : Value} {n : Nat} {xs : List Value} (h : Off w base e v n xs) :
    ∃ A c, v = .slice A n c ∧ n ≤ c ∧ c ≤ maxLen ∧ Rd w A n (fun j => xs.getD j undef) := by
  have h0 := h
  obtain ⟨g, off, cap, cur, rfl, hb, hh, hc, hm, hz, hl, ht⟩ := h
  refine ⟨_, cap, rfl, hc, hm, fun _ => ⟨g, off, rfl, (Array.getElem?_eq_some_iff.1 hh).1, fun j hj => ?_⟩⟩
  have hjl : j < xs.length := by omega
  exact h0.cells j _ (by show xs[j]? = some (xs.getD j undef); rw [List.getD_eq_getElem?_getD, List.getElem?_eq_getElem hjl]; rfl)
/-- A row of the call's own, without its first ones. -/
theorem Off.of_own {w : World} {base : Nat} {e : TypeId} {A : Option Addr} {n c k : Nat} {xs : List Value} (h : w.ownsRow base e 1 (.slice A n c) n xs) (hk : k ≤ n) (h0 : 0 < n) : ∃ g, A = some ⟨g, 0, none⟩ ∧ Off w base e (.slice (some ⟨g, k, none⟩) (n - k) (c - k)) (n - k) (xs.drop k) := by
  rcases h.2 with ⟨e1, hz⟩ | ⟨g, cap, cur, e1, hb, hh, hc, hm, hz, ht⟩
  · injection e1 with e1 e2 e3; omega
  · injection e1 with e1 e2 e3
    subst e1 e3
    have hl := h.1
    refine ⟨g, rfl, g, k, c - k, cur, rfl, hb, hh, by omega, by omega, by omega, by rw [List.length_drop]; omega, ?_⟩
    rw [Nat.mul_one] at ht
    rw [← ht, List.drop_take]
theorem run_append_none_off {P : Program} (w : World) (t ty e : TypeId) (i : TypeInfo) (ht : P.underlying t = some (.slice e)) (hi : P.info? e = some i) (ad : Addr) (n cap c : Nat) (hnc : n ≤ cap) :
    (Builtin.append_ #[t, t] ty #[.slice (some ad) n cap, .slice none 0 c]).run P w = .ok (.slice (some ad) n cap) w := by
  simp [Builtin.append_, run_underlying ht, sizeOf, typeInfo, hi, Builtin.lenOf, Builtin.firstCells, hnc, storeCells]
theorem run_append_off {P : Program} (w : World) (base : Nat) (t ty e : TypeId) (i : TypeInfo) (z : Value) (ht : P.underlying t = some (.slice e)) (hi : P.info? e = some i) (hz : i.zero = some z) (hs1 : i.size = 1) (hzs : z.cells.size = 1) (hb : i.bytes ≤ 64)
    (g off n cap : Nat) (xs : List Value) (hown : Off w base e (.slice (some ⟨g, off, none⟩) n cap) n xs)
    (a : Addr) (m c : Nat) (news : List Value) (hl : news.length = m) (hnews : ∀ j u, news[j]? = some u → w.cell? (a.add j) = some u) (h1 : ∀ u ∈ news, u.oneCell' = true) (hn : n + m < 1099511627776) (hbase : base ≤ w.heap.size) :
    ∃ v' w', (Builtin.append_ #[t, t] ty #[.slice (some ⟨g, off, none⟩) n cap, .slice (some a) m c]).run P w = .ok v' w' ∧ Off w' base e v' (n + m) (xs ++ news) ∧ w.grownBy w' (some g) := by
  have hcells := hown.cells
  obtain ⟨g', off', cap', cur, e1, hbg, hh, hnc, hcm, hcs, hxl, htk⟩ := hown
  injection e1 with e1 e2 e3
  injection e1 with e1
  injection e1 with e4 e5 e6
  subst e4 e5 e3
  have hbytes : (n + m) * i.bytes ≤ 140737488355328 := by
    have : (n + m) * i.bytes ≤ 1099511627776 * 64 := Nat.mul_le_mul (by omega) hb
    omega
  by_cases hroom : n + m ≤ cap
  · have hf := run_firstCells_some (P := P) w 1 m a m c news (by omega) hnews
    have hst := run_storeCells_at P g (off + n) e news 0 cur w hh (by omega) h1
    simp only [Nat.add_zero] at hst
    refine ⟨.slice (some ⟨g, off, none⟩) (n + m) cap, w.setRow g (cur.toList.take (off + n) ++ news ++ cur.toList.drop (off + n + news.length)).toArray, ?_, ⟨g, off, cap, _, rfl, hbg, setRow_heap w g cur _ e _ hh, hroom, hcm, ?_, ?_, ?_⟩, ⟨rfl, rfl, rfl, by simp, fun k _ hk => setRow_other w g k _ (fun e => hk (by rw [e]))⟩⟩
    · simp [Builtin.append_, run_underlying ht, sizeOf, typeInfo, hi, hs1, Builtin.lenOf, hroom, hf, Addr.add_lit, hst]
    · simp only [List.size_toArray, List.length_append, List.length_take, List.length_drop, Array.length_toList]
      omega
    · rw [List.length_append]; omega
    · have hlt : (cur.toList.take (off + n)).length = off + n := by rw [List.length_take, Array.length_toList]; omega
      rw [List.drop_append_of_le_length (by rw [List.length_append]; omega), List.drop_append_of_le_length (by omega), List.take_append_of_le_length (by rw [List.length_append, List.length_drop]; omega), List.drop_take, show off + n - off = n by omega, htk, List.take_of_length_le (by rw [List.length_append]; omega)]
  · have hr := run_append_grow (P := P) w t ty e i z ht hi hz ⟨g, off, none⟩ n cap xs (by rw [hs1]; omega) (fun j u hu => by rw [Addr.add_lit]; exact hcells j u hu) a m c news (by rw [hs1]; omega) hnews (by omega) (by omega) (growslice_fits (by omega) hbytes)
    have hge := grownCap_ge w (n + m) cap e
    have hcm2 : grownCap w (n + m) cap e ≤ maxLen := grownCap_le_maxLen w (n + m) cap e (by unfold maxLen; omega)
    refine ⟨_, _, hr, ⟨w.heap.size, 0, _, _, rfl, hbase, heap_alloc_new w.drew _, hge, hcm2, ?_, ?_, ?_⟩, ⟨rfl, rfl, rfl, by simp, fun k hk _ => Below.heap_alloc w.drew _ k hk⟩⟩
    · simp only [Array.size_append, List.size_toArray, size_zeroCells, hzs]
      omega
    · rw [List.length_append]; omega
    · simp only [Array.toList_append, List.append_assoc, List.drop_zero]
      rw [← List.append_assoc, List.take_append_of_le_length (by rw [List.length_append]; omega), List.take_of_length_le (by rw [List.length_append]; omega)]
theorem Off.below {w w' : World} {base g : Nat} {e : TypeId} {n : Nat} {xs : List Value} {off cap : Nat} (h : Off w base e (.slice (some ⟨g, off, none⟩) n cap) n xs) (hg : w.grownBy w' (some g)) (hb : base ≤ w.heap.size) : Below base w w' :=
  (Below.refl _ _).grown hg hb fun k hk => by
    obtain ⟨g', off', cap', cur, e1, hbg, hh, _⟩ := h
    injection e1 with e1
    injection e1 with e1
    injection e1 with e1
    injection hk with hk
    omega
/-- 'append(v, xs...)' onto a slice that begins inside its block. -/
theorem wpList_copyOff {P : Program} {W : World} {ops : Array Oper} {rest : List Oper} {o : Oper} {a : Act} {Q : Exit → Act → World → Prop} (s x : Operand) (t : TypeId)
    (base : Nat) (e : TypeId) (z : Value) (bytes : Nat) (v : Value) (n : Nat) (xs : List Value) (A : Option Addr) (m c : Nat) (f : Nat → Value)
    (hgd : o.guard = none) (ho : o.op = .call { callee := .builtin .append, args := #[s, x], argTypes := #[t, t] })
    (hs : a.eval s = v) (hx : a.eval x = .slice A m c)
    (ht : P.underlying t = some (.slice e)) (hi : (P.info? e).map (fun i => (i.zero, i.size, i.bytes)) = some (some z, 1, bytes)) (hzs : z.cells.size = 1) (h1 : ∀ j, j < m → (f j).oneCell' = true) (hb : bytes ≤ 64)
    (hown : Off W base e v n xs) (hr : Rd W A m f) (hn : n + m < 1099511627776) (hbase : base ≤ W.heap.size)
    (h : ∀ v' w', Off w' base e v' (n + m) (xs ++ (List.range m).map f) → Below base W w' → wpList P ops Q rest (a.put o.dst v') w') :
    wpList P ops Q (o :: rest) a W := by
  obtain ⟨i0, hi, hz0, hz1, hz2⟩ := info_parts hi
  obtain ⟨g, off, cap, cur, rfl, hrest⟩ := id hown
  rcases A with _ | ad
  · have hm : m = 0 := by
      rcases Nat.eq_zero_or_pos m with h0 | h0
      · exact h0
      · obtain ⟨b, off, h, _⟩ := hr h0
        cases h
    subst hm
    refine wpList_plain hgd fun K hK => ?_
    have hrun := run_append_none_off (P := P) W t o.type e i0 ht hi ⟨g, off, none⟩ n cap c hrest.2.2.1
    unfold Oper.wp execOp
    simp only [ho, resolve, invoke, builtin, Sem.run_bind, Sem.run_pure, Result.andThen_ok, List.map_toArray, List.map_cons, List.map_nil, hs, hx, hrun]
    exact hK _ _ (h _ W (by simpa using hown) (Below.refl _ _))
  · obtain ⟨v', w', hrun, h2, h3⟩ := run_append_off (P := P) W base t o.type e i0 z ht hi hz0 hz1 hzs (by omega) g off n cap xs hown ad m c ((List.range m).map f) (by simp) (by
      intro j u hu
      have hj : j < m := by
        rcases Nat.lt_or_ge j m with h | h
        · exact h
        · rw [List.getElem?_eq_none (by simpa using h)] at hu; cases hu
      obtain ⟨b, off, e1, hb, hc⟩ := hr (by omega)
      have e2 : ad = ⟨b, off, none⟩ := by injection e1
      have e3 : u = f j := by
        rw [List.getElem?_map, List.getElem?_range hj] at hu
        simpa using hu.symm
      rw [e2, e3, ← hc j hj, Addr.add_lit]) (by
      intro u hu
      obtain ⟨j, hj, rfl⟩ := List.mem_map.1 hu
      exact h1 j (by simpa using hj)) hn hbase
    refine wpList_plain hgd fun K hK => ?_
    unfold Oper.wp execOp
    simp only [ho, resolve, invoke, builtin, Sem.run_bind, Sem.run_pure, Result.andThen_ok, List.map_toArray, List.map_cons, List.map_nil, hs, hx, hrun]
    exact hK _ _ (h v' w' h2 (hown.below h3 hbase))
theorem run_appendz_off {P : Program} (w : World) (base : Nat) (t ty e tk : TypeId) (k : IntKind) (i : TypeInfo) (z : Value) (ht : P.underlying t = some (.slice e)) (hk : P.underlying tk = some (.int k)) (hi : P.info? e = some i) (hz : i.zero = some z) (hs1 : i.size = 1) (hzs : z.cells = #[z]) (h1 : z.oneCell' = true) (hb : i.bytes ≤ 64)
    (g off n cap : Nat) (xs : List Value) (hown : Off w base e (.slice (some ⟨g, off, none⟩) n cap) n xs) (m : Nat) (hm : 0 < m) (hn : n + m < 1099511627776) (hbase : base ≤ w.heap.size) :
    ∃ v' w', (Builtin.append_ #[t, tk] ty #[.slice (some ⟨g, off, none⟩) n cap, .int .i64 (m : Int)]).run P w = .ok v' w' ∧ Off w' base e v' (n + m) (xs ++ List.replicate m z) ∧ w.grownBy w' (some g) := by
  have hcells := hown.cells
  obtain ⟨g', off', cap', cur, e1, hbg, hh, hnc, hcm, hcs, hxl, htk⟩ := hown
  injection e1 with e1 e2 e3
  injection e1 with e1
  injection e1 with e4 e5 e6
  subst e4 e5 e3
  have hwr : IntKind.i64.wrap (m : Int) = (m : Int) := by rw [IntKind.wrap_i64]; omega
  have hneg : ¬ ((m : Int) < 0) := by omega
  have hbig : ¬ (281474976710656 < (m : Int) * (i.bytes : Int)) := by
    have : m * i.bytes ≤ 1099511627776 * 64 := Nat.mul_le_mul (by omega) hb
    rw [← Int.natCast_mul]; omega
  have hm0 : ¬ m = 0 := by omega
  by_cases hroom : n + m ≤ cap
  · have hst := run_storeCells_at P g (off + n) e (List.replicate m z) 0 cur w hh (by simp; omega) (by intro u hu; rw [List.eq_of_mem_replicate hu]; exact h1)
    simp only [Nat.add_zero] at hst
    refine ⟨.slice (some ⟨g, off, none⟩) (n + m) cap, w.setRow g (cur.toList.take (off + n) ++ List.replicate m z ++ cur.toList.drop (off + n + (List.replicate m z).length)).toArray, ?_, ⟨g, off, cap, _, rfl, hbg, setRow_heap w g cur _ e _ hh, hroom, hcm, ?_, ?_, ?_⟩, ⟨rfl, rfl, rfl, by simp, fun k _ hk => setRow_other w g k _ (fun e => hk (by rw [e]))⟩⟩
    · simp [Builtin.append_, run_underlying ht, run_underlying hk, sizeOf, typeInfo, zeroValue, hi, hz, hs1, hzs, asInt, asIntOf, hwr, hneg, hbig, hm0, hroom, zeroCells_one, Addr.add_lit]
      simp at hst
      rw [hst]; simp
    · simp only [List.size_toArray, List.length_append, List.length_take, List.length_drop, Array.length_toList, List.length_replicate]
      omega
    · rw [List.length_append, List.length_replicate]; omega
    · have hlt : (cur.toList.take (off + n)).length = off + n := by rw [List.length_take, Array.length_toList]; omega
      rw [List.drop_append_of_le_length (by rw [List.length_append]; omega), List.drop_append_of_le_length (by omega), List.take_append_of_le_length (by rw [List.length_append, List.length_drop, List.length_replicate]; omega), List.drop_take, show off + n - off = n by omega, htk, List.take_of_length_le (by rw [List.length_append, List.length_replicate]; omega)]
  · have h63' : ¬ (9223372036854775807 < (n : Int) + (m : Int)) := by omega
    have h48' : ¬ (281474976710656 < Builtin.nextslicecap (n + m) cap * i.bytes) := by
      have := growslice_fits (need := n + m) (old := cap) (bytes := i.bytes) (by omega) (by
        have : (n + m) * i.bytes ≤ 1099511627776 * 64 := Nat.mul_le_mul (by omega) hb
        omega)
      omega
    have hfo := run_firstCells_some (P := P) w.drew 1 n ⟨g, off, none⟩ n cap xs (by omega) (fun j u hu => by rw [Addr.add_lit]; exact hcells j u hu)
    have hge := grownCap_ge w (n + m) cap e
    have hcm2 : grownCap w (n + m) cap e ≤ maxLen := grownCap_le_maxLen w (n + m) cap e (by unfold maxLen; omega)
    refine ⟨.slice (some ⟨w.heap.size, 0, none⟩) (n + m) (grownCap w (n + m) cap e), w.drew.alloc (.cells (xs ++ List.replicate m z ++ List.replicate (grownCap w (n + m) cap e - (n + m)) z).toArray e), ?_, ⟨w.heap.size, 0, _, _, rfl, hbase, heap_alloc_new w.drew _, hge, hcm2, ?_, ?_, ?_⟩, ⟨rfl, rfl, rfl, by simp, fun k hk _ => Below.heap_alloc w.drew _ k hk⟩⟩
    · simp [Builtin.append_, run_underlying ht, run_underlying hk, sizeOf, typeInfo, zeroValue, hi, hz, hs1, hzs, asInt, asIntOf, hwr, hneg, hbig, hm0, hroom, h63', h48', Question.forced, newRow, grownCap, zeroCells_one, hfo]
      congr 2
      apply Array.ext'
      simp
    · simp only [List.size_toArray, List.length_append, List.length_replicate]
      omega
    · rw [List.length_append, List.length_replicate]; omega
    · simp only [List.drop_zero]
      rw [List.take_append_of_le_length (by rw [List.length_append, List.length_replicate]; omega), List.take_of_length_le (by rw [List.length_append, List.length_replicate]; omega)]
/-- 'append(v, make([]T, m)...)' onto a slice that begins inside its block. -/
theorem wpList_appendzOff {P : Program} {W : World} {ops : Array Oper} {rest : List Oper} {o : Oper} {a : Act} {Q : Exit → Act → World → Prop} (s x : Operand) (t tk : TypeId) (kk : IntKind)
    (base : Nat) (e : TypeId) (z : Value) (bytes : Nat) (v : Value) (n : Nat) (xs : List Value) (m : Nat)
    (hgd : o.guard = none) (ho : o.op = .call { callee := .builtin .append, args := #[s, x], argTypes := #[t, tk] })
    (hs : a.eval s = v) (hx : a.eval x = .int .i64 (m : Int))
    (ht : P.underlying t = some (.slice e)) (hk : P.underlying tk = some (.int kk)) (hi : (P.info? e).map (fun i => (i.zero, i.size, i.bytes)) = some (some z, 1, bytes)) (hzs : z.cells = #[z]) (h1 : z.oneCell' = true) (hb : bytes ≤ 64)
    (hown : Off W base e v n xs) (hm : 0 < m) (hn : n + m < 1099511627776) (hbase : base ≤ W.heap.size)
    (h : ∀ v' w', Off w' base e v' (n + m) (xs ++ List.replicate m z) → Below base W w' → wpList P ops Q rest (a.put o.dst v') w') :
    wpList P ops Q (o :: rest) a W := by
  obtain ⟨i0, hi, hz0, hz1, hz2⟩ := info_parts hi
  obtain ⟨g, off, cap, cur, rfl, hrest⟩ := id hown
  obtain ⟨v', w', hr, h2, h3⟩ := run_appendz_off (P := P) W base t o.type e tk kk i0 z ht hk hi hz0 hz1 hzs h1 (by omega) g off n cap xs hown m hm hn hbase
  refine wpList_plain hgd fun K hK => ?_
  unfold Oper.wp execOp
  simp only [ho, resolve, invoke, builtin, Sem.run_bind, Sem.run_pure, Result.andThen_ok, List.map_toArray, List.map_cons, List.map_nil, hs, hx, hr]
  exact hK _ _ (h v' w' h2 (hown.below h3 hbase))
end Go.Qz
