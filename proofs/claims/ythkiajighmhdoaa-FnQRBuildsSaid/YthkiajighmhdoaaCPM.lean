/-
  copy into a row that is known whole, with the frame of one block; make with length 0. No condition beyond the bounds that each theorem states.
-/
import Derived.Test.YthkiajighmhdoaaPSH
import Derived.Laws.CopyOwn
namespace Go.Qz
open Go.RowKit
set_option linter.unusedVariables false

theorem Mod.setRow (w : World) (g : Nat) (cs : Array Value) : Mod (· = g) w (w.setRow g cs) :=
  ⟨rfl, rfl, rfl, by simp [World.setRow], fun k hk hs => setRow_other w g k cs (fun e => hs e)⟩
/-- 'copy(d, s)', d in a row that is known whole: only this row's block turns. -/
theorem wpList_copy_mod {P : Program} {w : World} {ops : Array Oper} {rest : List Oper} {o : Oper} {a : Act} {Q : Exit → Act → World → Prop} (hgd : o.guard = none) (d s : Operand) (dT sT : TypeId)
    (ho : o.op = .call { callee := .builtin .copy, args := #[d, s], argTypes := #[dT, sT] }) (elem : TypeId) (hu : P.underlying dT = some (.slice elem)) (hsz : (P.info? elem).map (·.size) = some 1)
    (dp sp : Option Addr) (dLen dCap sLen sCap : Nat) (hd : a.eval d = .slice dp dLen dCap) (hs : a.eval s = .slice sp sLen sCap)
    (g off : Nat) (cur : List Value) (t : TypeId) (hg : Arr w t g cur) (cs : List Value) (hn : cs.length = Nat.min sLen dLen)
    (hpos : 0 < cs.length → dp = some ⟨g, off, none⟩ ∧ ∃ ad, sp = some ad ∧ ∀ j v, cs[j]? = some v → w.cell? (ad.add j) = some v)
    (hfit : off + cs.length ≤ cur.length) (h1 : ∀ v ∈ cs, v.oneCell' = true)
    (h : ∀ w', Hid (Arr w' t g (splice cur off cs)) → Hid (Mod (· = g) w w') → wpList P ops Q rest (a.put o.dst (goInt cs.length)) w') :
    wpList P ops Q (o :: rest) a w := by
  by_cases h0 : cs.length = 0
  · obtain rfl : cs = [] := List.eq_nil_of_length_eq_zero h0
    refine wpList_copy_nothing hgd d s dT sT ho elem hu hsz dp sp dLen dCap sLen sCap hd hs (by simpa using hn.symm) ?_
    refine h w (Lib.hid ?_) (Lib.hid (Mod.refl _))
    have e : splice cur off [] = cur := by simp [splice]
    rw [e]; exact hg
  · obtain ⟨rfl, ad, rfl, hsrc⟩ := hpos (by omega)
    refine wpList_copy_own hgd d s dT sT ho elem hu hsz g off dLen dCap ad sLen sCap hd hs cur.toArray t hg cs hn hsrc (by simpa using hfit) h1 ?_
    refine h _ (Lib.hid ?_) (Lib.hid (Mod.setRow _ _ _))
    have e := setRow_heap w g cur.toArray (cur.toArray.toList.take off ++ (cs ++ cur.toArray.toList.drop (off + cs.length))).toArray t _ hg
    unfold Arr
    rw [e]
    simp [splice]
/-- 'make([]T, 0, n)', T of one cell: an equation for every world. -/
theorem run_make0 {P : Program} (t e : TypeId) (z : Value) (bytes : Nat) (ht : P.underlying t = some (.slice e)) (hi : (P.info? e).map (fun i => (i.zero, i.size, i.bytes)) = some (some z, 1, bytes)) (hz : z.cells = #[z]) (hb : bytes ≤ 64)
    (n : Nat) (hn : n < 1099511627776) (kl kc : IntKind) (L : Int) (hL : L = n) (w : World) :
    (Instr.makeSlice t (.int kl 0) (.int kc L)).run P w = .ok (.slice (some ⟨w.heap.size, 0, none⟩) 0 n) (w.alloc (.cells (zeros n z) e)) := by
  obtain ⟨i0, hi, hz0, hz1, hz2⟩ := info_parts hi
  subst hL
  have h1 : (i0.bytes : Int) * (n : Int) ≤ 281474976710656 := by
    have : i0.bytes * n ≤ 64 * 1099511627776 := Nat.mul_le_mul (by omega) (by omega)
    rw [← Int.natCast_mul]; omega
  have h := run_make (P := P) w t e i0 z ht hi hz0 kl kc 0 (n : Int) (by omega) (by omega) h1 (by omega)
  rw [h, Int.toNat_natCast, hz1, Nat.mul_one, hz, madeCells_one]
  rfl
/-- A new row of no elements is the call's own. -/
theorem own_make0 (w : World) (e : TypeId) (z : Value) (n base : Nat) (hb : base ≤ w.heap.size) (hn : n ≤ maxLen) : (w.alloc (.cells (zeros n z) e)).ownsRow base e 1 (.slice (some ⟨w.heap.size, 0, none⟩) 0 n) 0 [] :=
  ⟨rfl, .inr ⟨w.heap.size, n, zeros n z, rfl, hb, heap_alloc_new w _, by omega, hn, by simp [zeros], by simp⟩⟩
end Go.Qz
