/-
  append of one value onto a row of the call's own, with the place where the new row lies. No condition beyond the bounds that the theorem states.
-/
import Derived.Test.YthkiajighmhdoaaBase
import Derived.Maps.AppendAt
namespace Go.Qz
open Go.RowKit
set_option linter.unusedVariables false

/-- 'v = append(v, u)' onto a row of the call's own: behind the new block that holds u; where it lies. -/
theorem wpList_pushAt {P : Program} {W : World} {ops : Array Oper} {rest : List Oper} {o : Oper} {a : Act} {Q : Exit → Act → World → Prop} (s x : Operand) (t : TypeId)
    (base : Nat) (e : TypeId) (z : Value) (bytes : Nat) (v : Value) (n : Nat) (xs : List Value) (u : Value)
    (hgd : o.guard = none) (ho : o.op = .call { callee := .builtin .append, args := #[s, x], argTypes := #[t, t] })
    (hs : a.eval s = v) (hx : a.eval x = .slice (some ⟨W.heap.size, 0, none⟩) 1 1)
    (ht : P.underlying t = some (.slice e)) (hi : (P.info? e).map (fun i => (i.zero, i.size, i.bytes)) = some (some z, 1, bytes)) (hzs : z.cells.size = 1) (h1 : u.oneCell' = true) (hb : bytes ≤ 64)
    (hown : W.ownsRow base e 1 v n xs) (hn : n < 1099511627776) (hbase : base ≤ W.heap.size)
    (h : ∀ v' w', w'.ownsRow base e 1 v' (n + 1) (xs ++ [u]) → W.grownBy w' v.ownBlock → Below base W w' → (v'.ownBlock = v.ownBlock ∨ v'.ownBlock = some (W.heap.size + 1)) → wpList P ops Q rest (a.put o.dst v') w') :
    wpList P ops Q (o :: rest) a (W.alloc (.cells #[u] e)) := by
  obtain ⟨i0, hi, hz0, hz1, hz2⟩ := info_parts hi
  refine wpList_append_own_at _ hgd s x t ho base e i0 z 1 bytes ht hi hz0 hz1 hz2 hzs (by decide) v n xs hs (hown.alloc _) ⟨W.heap.size, 0, none⟩ 1 1 [u] hx rfl ?_ ?_ ?_ ?_ ?_ ?_
  · intro j u' hu
    have : j = 0 := by
      rcases Nat.eq_zero_or_pos j with h | h
      · exact h
      · rw [List.getElem?_eq_none (by simp; omega)] at hu; cases hu
    subst this
    simp at hu
    subst hu
    rw [Addr.add_lit, World.cell?_alloc_at _ _ _ _ rfl]
    rfl
  · intro u' hu
    simp at hu
    subst hu
    exact h1
  · unfold maxLen; omega
  · have : (n + 1) * bytes ≤ 1099511627776 * 64 := Nat.mul_le_mul (by omega) hb
    omega
  · simp; omega
  · intro v' w' g1 g2 _ g4
    have g3 : W.grownBy w' v.ownBlock :=
      ⟨g2.os, g2.tape, g2.output, Nat.le_trans (by simp) g2.size, fun k hk hne => (g2.block k (by simp; omega) hne).trans (Below.heap_alloc W _ k hk)⟩
    exact h v' w' g1 g3 ((Below.refl _ _).grown g3 hbase fun k hk => (hown.lt k hk).1) (by simpa using g4)
theorem Mod.of_belowE {B : Nat} {a w : World} (h : Below B a w) : Mod (fun k => B ≤ k) a w := ⟨h.os, h.tape, h.output, h.size, fun i _ hs => h.block i (by omega)⟩
theorem Mod.of_grown {w w' : World} {row : Option Nat} (hg : w.grownBy w' row) : Mod (fun k => row = some k) w w' :=
  ⟨hg.os, hg.tape, hg.output, hg.size, fun i hi hs => hg.block i hi (fun e => hs e.symm)⟩
/-- A row of the call's own stays where neither its block is written. -/
theorem own_mod {S : Nat → Prop} {w w' : World} {base : Nat} {e : TypeId} {size n : Nat} {v : Value} {xs : List Value} (h : w.ownsRow base e size v n xs) (hm : Mod S w w') (hs : ∀ k, v.ownBlock = some k → ¬ S k) : w'.ownsRow base e size v n xs := by
  obtain ⟨h1, h2⟩ := h
  refine ⟨h1, ?_⟩
  rcases h2 with h2 | ⟨g, cap, cur, rfl, hb, hh, hc, hm2, hz, ht⟩
  · exact .inl h2
  · exact .inr ⟨g, cap, cur, rfl, hb, (hm.block g (Array.getElem?_eq_some_iff.1 hh).1 (hs g rfl)).trans hh, hc, hm2, hz, ht⟩
end Go.Qz
