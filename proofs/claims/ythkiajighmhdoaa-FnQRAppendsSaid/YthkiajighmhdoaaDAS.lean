/-
  append inside a region, of a slice that may be nil; rows made by a literal. No condition beyond the bounds that each theorem states.
-/
import Derived.Test.YthkiajighmhdoaaCPM
import Derived.Great.Walk
namespace Go.Qz
open Go.RowKit
set_option linter.unusedVariables false
/-- 'append(v, xs...)' inside a region that draws its order: xs nil, empty or not. -/
theorem step_copyAny {P : Program} {W : World} {ops : Array Oper} {o : Oper} {a : Act} {K : Act → World → Prop} {Q : Exit → Act → World → Prop} {E : Prop} (s x : Operand) (t : TypeId)
    (base : Nat) (e : TypeId) (z : Value) (bytes : Nat) (v : Value) (n : Nat) (xs : List Value) (A : Option Addr) (m c : Nat) (f : Nat → Value)
    (hgd : o.guard = none) (ho : o.op = .call { callee := .builtin .append, args := #[s, x], argTypes := #[t, t] })
    (hs : a.eval s = v) (hx : a.eval x = .slice A m c)
    (ht : P.underlying t = some (.slice e)) (hi : (P.info? e).map (fun i => (i.zero, i.size, i.bytes)) = some (some z, 1, bytes)) (hzs : z.cells.size = 1) (h1 : ∀ j, j < m → (f j).oneCell' = true) (hb : bytes ≤ 64)
    (hown : W.ownsRow base e 1 v n xs) (hr : Rd W A m f) (hn : n + m < 1099511627776) (hbase : base ≤ W.heap.size)
    (h : ∀ v' w', w'.ownsRow base e 1 v' (n + m) (xs ++ (List.range m).map f) → W.grownBy w' v.ownBlock → Below base W w' → K (a.put o.dst v') w') :
    if Region.wanted o (yielded ops a.tmps) = true then Oper.wp P o a W K Q else E := by
  have hw : Region.wanted o (yielded ops a.tmps) = true := by simp [Region.wanted, hgd]
  rw [if_pos hw]
  rcases A with _ | ad
  · have hm : m = 0 := by
      rcases Nat.eq_zero_or_pos m with h0 | h0
      · exact h0
      · obtain ⟨b, off, h, _⟩ := hr h0
        cases h
    subst hm
    obtain ⟨i0, hi, _, _, _⟩ := info_parts hi
    have hrun := run_append_none (P := P) W base t o.type e i0 1 ht hi v n xs hown c
    unfold Oper.wp execOp
    simp only [ho, resolve, invoke, builtin, Sem.run_bind, Sem.run_pure, Result.andThen_ok, List.map_toArray, List.map_cons, List.map_nil, hs, hx, hrun]
    exact h v W (by simpa using hown) (World.grownBy.refl W _) (Below.refl _ _)
  · obtain ⟨i0, hi, hz0, hz1, hz2⟩ := info_parts hi
    refine wp_append_own _ s x t ho base e i0 z 1 bytes ht hi hz0 hz1 hz2 hzs (by decide) v n xs hs hown ad m c ((List.range m).map f) hx (by simp) ?_ ?_ ?_ ?_ hbase ?_
    · intro j u hu
      have hj : j < m := by
        rcases Nat.lt_or_ge j m with h | h
        · exact h
        · rw [List.getElem?_eq_none (by simpa using h)] at hu; cases hu
      obtain ⟨b, off, e1, hb, hc⟩ := hr (by omega)
      have e2 : ad = ⟨b, off, none⟩ := by injection e1
      have e3 : u = f j := by
        rw [List.getElem?_map, List.getElem?_range hj] at hu
        simpa using hu.symm
      rw [e2, e3, ← hc j hj]
      unfold Addr.add
      split <;> simp_all
    · intro u hu
      obtain ⟨j, hj, rfl⟩ := List.mem_map.1 hu
      exact h1 j (by simpa using hj)
    · unfold maxLen; omega
    · have : (n + m) * bytes ≤ 1099511627776 * 64 := Nat.mul_le_mul (by omega) hb
      omega
    · intro v' w' g1 g2 _
      exact h v' w' g1 g2 ((Below.refl _ _).grown g2 hbase fun k hk => (hown.lt k hk).1)
theorem own_down {w : World} {b b' : Nat} {e : TypeId} {size : Nat} {v : Value} {n : Nat} {xs : List Value} (h : w.ownsRow b e size v n xs) (hb : b' ≤ b) : w.ownsRow b' e size v n xs := by
  refine ⟨h.1, ?_⟩
  rcases h.2 with h2 | ⟨g, cap, cur, e1, hg, r⟩
  · exact .inl h2
  · exact .inr ⟨g, cap, cur, e1, Nat.le_trans hb hg, r⟩
/-- A row of one element, made by a literal. -/
theorem own_lit {w : World} {e : TypeId} {base : Nat} (u : Value) (hb : base ≤ w.heap.size) : (w.alloc (.cells #[u] e)).ownsRow base e 1 (.slice (some ⟨w.heap.size, 0, none⟩) 1 1) 1 [u] :=
  ⟨rfl, .inr ⟨w.heap.size, 1, #[u], rfl, hb, heap_alloc_new w _, Nat.le_refl _, by unfold maxLen; omega, rfl, rfl⟩⟩
/-- What the call's own row holds stays where another row grows. -/
theorem rd_grown {W w' : World} {A : Option Addr} {m : Nat} {f : Nat → Value} {row : Option Nat} (h : Rd W A m f) (hg : W.grownBy w' row) (hne : ∀ a, A = some a → 0 < m → row ≠ some a.block) : Rd w' A m f := by
  intro h0
  obtain ⟨b, off, e, hb, hc⟩ := h h0
  exact ⟨b, off, e, Nat.lt_of_lt_of_le hb hg.size, fun j hj => by
    rw [← hc j hj]
    exact World.cell?_of_block (w := W) (hg.block b hb (fun e2 => hne _ e h0 (by rw [← e2])))⟩
/-- 'append(v, xs...)' onto a row of the call's own, xs read as f: nil, empty or not. -/
theorem wpList_copyAtS {P : Program} {W : World} {ops : Array Oper} {rest : List Oper} {o : Oper} {a : Act} {Q : Exit → Act → World → Prop} (s x : Operand) (t : TypeId)
    (base : Nat) (e : TypeId) (z : Value) (bytes : Nat) (v : Value) (n : Nat) (xs : List Value) (A : Option Addr) (m c : Nat) (f : Nat → Value)
    (hgd : o.guard = none) (ho : o.op = .call { callee := .builtin .append, args := #[s, x], argTypes := #[t, t] })
    (hs : a.eval s = v) (hx : a.eval x = .slice A m c)
    (ht : P.underlying t = some (.slice e)) (hi : (P.info? e).map (fun i => (i.zero, i.size, i.bytes)) = some (some z, 1, bytes)) (hzs : z.cells.size = 1) (h1 : ∀ j, j < m → (f j).oneCell' = true) (hb : bytes ≤ 64)
    (hown : W.ownsRow base e 1 v n xs) (hr : Rd W A m f) (hn : n + m < 1099511627776) (hbase : base ≤ W.heap.size)
    (h : ∀ v' w', w'.ownsRow base e 1 v' (n + m) (xs ++ (List.range m).map f) → W.grownBy w' v.ownBlock → Below base W w' → (v'.ownBlock = v.ownBlock ∨ v'.ownBlock = some W.heap.size) → wpList P ops Q rest (a.put o.dst v') w') :
    wpList P ops Q (o :: rest) a W := by
  rcases A with _ | ad
  · have hm : m = 0 := by
      rcases Nat.eq_zero_or_pos m with h0 | h0
      · exact h0
      · obtain ⟨b, off, h, _⟩ := hr h0
        cases h
    subst hm
    obtain ⟨i0, hi, _, _, _⟩ := info_parts hi
    refine wpList_plain hgd fun K hK => ?_
    have hrun := run_append_none (P := P) W base t o.type e i0 1 ht hi v n xs hown c
    unfold Oper.wp execOp
    simp only [ho, resolve, invoke, builtin, Sem.run_bind, Sem.run_pure, Result.andThen_ok, List.map_toArray, List.map_cons, List.map_nil, hs, hx, hrun]
    exact hK _ _ (h v W (by simpa using hown) (World.grownBy.refl W _) (Below.refl _ _) (.inl rfl))
  · obtain ⟨i0, hi, hz0, hz1, hz2⟩ := info_parts hi
    refine wpList_append_own_at _ hgd s x t ho base e i0 z 1 bytes ht hi hz0 hz1 hz2 hzs (by decide) v n xs hs hown ad m c ((List.range m).map f) hx (by simp) ?_ ?_ ?_ ?_ hbase ?_
    · intro j u hu
      have hj : j < m := by
        rcases Nat.lt_or_ge j m with h | h
        · exact h
        · rw [List.getElem?_eq_none (by simpa using h)] at hu; cases hu
      obtain ⟨b, off, e1, hb, hc⟩ := hr (by omega)
      have e2 : ad = ⟨b, off, none⟩ := by injection e1
      have e3 : u = f j := by
        rw [List.getElem?_map, List.getElem?_range hj] at hu
        simpa using hu.symm
      rw [e2, e3, ← hc j hj]
      unfold Addr.add
      split <;> simp_all
    · intro u hu
      obtain ⟨j, hj, rfl⟩ := List.mem_map.1 hu
      exact h1 j (by simpa using hj)
    · unfold maxLen; omega
    · have : (n + m) * bytes ≤ 1099511627776 * 64 := Nat.mul_le_mul (by omega) hb
      omega
    · intro v' w' g1 g2 _ g4
      exact h v' w' g1 g2 ((Below.refl _ _).grown g2 hbase fun k hk => (hown.lt k hk).1) g4

/-- A conversion whose run is known. -/
theorem wpList_conv {P : Program} {ops : Array Oper} {rest : List Oper} {o : Oper} {a : Act} {w : World} {Q : Exit → Act → World → Prop} (t1 t2 : TypeId) (x : Operand) (u v : Value) (W' : World)
    (hg : o.guard = none) (ho : o.op = .convert t1 t2 x) (hx : a.eval x = u) (hrun : (convert t1 t2 u).run P w = .ok v W')
    (h : wpList P ops Q rest (a.put o.dst v) W') : wpList P ops Q (o :: rest) a w := by
  refine Great.wpList_runTo hg o.dst rfl v W' ?_ h
  unfold execOp
  simp [ho, hx, hrun]
end Go.Qz
