/-
  'append(v, make([]T, m)...)' onto a row of the call's own: m zero values behind. No condition beyond the bounds that the theorem states.
-/
import Derived.Test.YtcadknfcahmdcaaGreatGRD
namespace Go.Qz
open Go.RowKit
set_option linter.unusedVariables false

theorem zeroCells_one (z : Value) (n : Nat) : Builtin.zeroCells #[z] n = (List.replicate n z).toArray := by
  unfold Builtin.zeroCells
  apply Array.ext
  · simp
  · intro i h1 h2
    simp [Nat.mod_one]
theorem run_appendz {P : Program} (w : World) (base : Nat) (t ty e tk : TypeId) (k : IntKind) (i : TypeInfo) (z : Value) (bytes : Nat) (ht : P.underlying t = some (.slice e)) (hk : P.underlying tk = some (.int k)) (hi : P.info? e = some i) (hz : i.zero = some z) (hs1 : i.size = 1) (hby : i.bytes = bytes) (hzs : z.cells = #[z]) (h1 : z.oneCell' = true) (hb : bytes ≤ 64)
    (v : Value) (n : Nat) (xs : List Value) (hown : w.ownsRow base e 1 v n xs) (m : Nat) (hm : 0 < m) (hn : n + m < 1099511627776) (hbase : base ≤ w.heap.size) :
    ∃ v' w', (Builtin.append_ #[t, tk] ty #[v, .int .i64 (m : Int)]).run P w = .ok v' w' ∧ w'.ownsRow base e 1 v' (n + m) (xs ++ List.replicate m z) ∧ w.grownBy w' v.ownBlock := by
  subst hby
  have hlen : (xs ++ List.replicate m z).length = (n + m) * 1 := by rw [List.length_append, hown.1, List.length_replicate, Nat.mul_one, Nat.mul_one]
  have hwr : IntKind.i64.wrap (m : Int) = (m : Int) := by rw [IntKind.wrap_i64]; omega
  have hneg : ¬ ((m : Int) < 0) := by omega
  have hbig : ¬ (281474976710656 < (m : Int) * (i.bytes : Int)) := by
    have : m * i.bytes ≤ 1099511627776 * 64 := Nat.mul_le_mul (by omega) hb
    rw [← Int.natCast_mul]; omega
  have hm0 : ¬ m = 0 := by omega
  have grown : ∀ (old : Nat), old < n + m → ∀ (row : Option Nat),
      (w.drew.alloc (.cells (xs ++ List.replicate m z ++ List.replicate (grownCap w (n + m) old e - (n + m)) z).toArray e)).ownsRow base e 1
        (.slice (some ⟨w.heap.size, 0, none⟩) (n + m) (grownCap w (n + m) old e)) (n + m) (xs ++ List.replicate m z) ∧
      w.grownBy (w.drew.alloc (.cells (xs ++ List.replicate m z ++ List.replicate (grownCap w (n + m) old e - (n + m)) z).toArray e)) row := by
    intro old ho row
    have hge := grownCap_ge w (n + m) old e
    have hcm : grownCap w (n + m) old e ≤ maxLen := grownCap_le_maxLen w (n + m) old e (by unfold maxLen; omega)
    refine ⟨⟨hlen, .inr ⟨w.heap.size, _, _, rfl, hbase, heap_alloc_new w.drew _, hge, hcm, ?_, ?_⟩⟩, ⟨rfl, rfl, rfl, by simp, fun k hk _ => Below.heap_alloc w.drew _ k hk⟩⟩
    · have := hown.1
      simp only [List.size_toArray, List.length_append, List.length_replicate]
      omega
    · rw [← hlen]
      exact List.take_left
  rcases hown.2 with ⟨rfl, rfl⟩ | ⟨g, cap, cur, rfl, hbg, hg, hnc, hcm, hcs, htake⟩
  · have hx : xs = [] := List.eq_nil_of_length_eq_zero (by simpa using hown.1)
    subst hx
    have hgr := grown 0 (by omega) (Value.ownBlock (.slice none 0 0))
    refine ⟨_, _, ?_, hgr.1, hgr.2⟩
    have h63' : ¬ (9223372036854775807 < (m : Int)) := by omega
    have h48' : ¬ (281474976710656 < Builtin.nextslicecap m 0 * i.bytes) := by
      rw [nextslicecap_zero hm]
      have : m * i.bytes ≤ 1099511627776 * 64 := Nat.mul_le_mul (by omega) hb
      omega
    simp [Builtin.append_, run_underlying ht, run_underlying hk, sizeOf, typeInfo, zeroValue, hi, hz, hs1, hzs, asInt, asIntOf, hwr, hneg, hbig, hm0, h63', h48', Question.forced, run_firstCells_none, newRow, grownCap, zeroCells_one]
  · by_cases hroom : n + m ≤ cap
    · refine ⟨.slice (some ⟨g, 0, none⟩) (n + m) cap, w.setRow g (cur.toList.take (n * 1) ++ List.replicate m z ++ cur.toList.drop (n * 1 + (List.replicate m z).length)).toArray, ?_, ⟨hlen, .inr ⟨g, cap, _, rfl, hbg, setRow_heap w g cur _ e _ hg, hroom, hcm, ?_, ?_⟩⟩, ⟨rfl, rfl, rfl, by simp, fun k _ hk => setRow_other w g k _ (fun e => hk (by simp [Value.ownBlock, e]))⟩⟩
      · have hst := run_storeCells_at P g (n * 1) e (List.replicate m z) 0 cur w hg (by simp; omega) (by intro u hu; rw [List.eq_of_mem_replicate hu]; exact h1)
        simp only [Nat.add_zero] at hst
        simp [Builtin.append_, run_underlying ht, run_underlying hk, sizeOf, typeInfo, zeroValue, hi, hz, hs1, hzs, asInt, asIntOf, hwr, hneg, hbig, hm0, hroom, zeroCells_one, Addr.add_lit]
        simp at hst
        rw [hst]; simp
      · have := hown.1
        simp only [List.size_toArray, List.length_append, List.length_take, List.length_drop, Array.length_toList, List.length_replicate]
        omega
      · rw [htake, ← hlen]
        exact List.take_left
    · have holds : ∀ j u, xs[j]? = some u → w.cell? ((⟨g, 0, none⟩ : Addr).add j) = some u := hown.cells (g := g) rfl
      have hgr := grown cap (by omega) (Value.ownBlock (.slice (some ⟨g, 0, none⟩) n cap))
      refine ⟨_, _, ?_, hgr.1, hgr.2⟩
      have hl2 : xs.length = n * i.size := by rw [hs1]; exact hown.1
      have h63' : ¬ (9223372036854775807 < (n : Int) + (m : Int)) := by omega
      have h48' : ¬ (281474976710656 < Builtin.nextslicecap (n + m) cap * i.bytes) := by
        have := growslice_fits (need := n + m) (old := cap) (bytes := i.bytes) (by omega) (by
          have : (n + m) * i.bytes ≤ 1099511627776 * 64 := Nat.mul_le_mul (by omega) hb
          omega)
        omega
      have hfo := run_firstCells_some (P := P) w.drew i.size n ⟨g, 0, none⟩ n cap xs hl2 (by simpa using holds)
      rw [hs1] at hfo
      simp [Builtin.append_, run_underlying ht, run_underlying hk, sizeOf, typeInfo, zeroValue, hi, hz, hs1, hzs, asInt, asIntOf, hwr, hneg, hbig, hm0, hroom, h63', h48', Question.forced, newRow, grownCap, zeroCells_one, hfo]
      congr 2
      apply Array.ext'
      simp
theorem wpList_appendz {P : Program} {W : World} {ops : Array Oper} {rest : List Oper} {o : Oper} {a : Act} {Q : Exit → Act → World → Prop} (s x : Operand) (t tk : TypeId) (kk : IntKind)
    (base : Nat) (e : TypeId) (z : Value) (bytes : Nat) (v : Value) (n : Nat) (xs : List Value) (m : Nat)
    (hgd : o.guard = none) (ho : o.op = .call { callee := .builtin .append, args := #[s, x], argTypes := #[t, tk] })
    (hs : a.eval s = v) (hx : a.eval x = .int .i64 (m : Int))
    (ht : P.underlying t = some (.slice e)) (hk : P.underlying tk = some (.int kk)) (hi : (P.info? e).map (fun i => (i.zero, i.size, i.bytes)) = some (some z, 1, bytes)) (hzs : z.cells = #[z]) (h1 : z.oneCell' = true) (hb : bytes ≤ 64)
    (hown : W.ownsRow base e 1 v n xs) (hm : 0 < m) (hn : n + m < 1099511627776) (hbase : base ≤ W.heap.size)
    (h : ∀ v' w', w'.ownsRow base e 1 v' (n + m) (xs ++ List.replicate m z) → W.grownBy w' v.ownBlock → Below base W w' → wpList P ops Q rest (a.put o.dst v') w') :
    wpList P ops Q (o :: rest) a W := by
  obtain ⟨i0, hi, hz0, hz1, hz2⟩ := info_parts hi
  obtain ⟨v', w', hr, h2, h3⟩ := run_appendz (P := P) W base t o.type e tk kk i0 z bytes ht hk hi hz0 hz1 hz2 hzs h1 hb v n xs hown m hm hn hbase
  refine wpList_plain hgd fun K hK => ?_
  unfold Oper.wp execOp
  simp only [ho, resolve, invoke, builtin, Sem.run_bind, Sem.run_pure, Result.andThen_ok, List.map_toArray, List.map_cons, List.map_nil, hs, hx, hr]
  exact hK _ _ (h v' w' h2 h3 ((Below.refl _ _).grown h3 hbase fun k hk => (hown.lt k hk).1))
end Go.Qz
