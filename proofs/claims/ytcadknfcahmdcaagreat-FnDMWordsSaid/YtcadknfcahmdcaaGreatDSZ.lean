/-
  Data Matrix sizes in memory; rows of structs. No condition beyond the bounds that each theorem states.
-/
import Derived.Test.YtcadknfcahmdcaaGreatGRD
import Derived.Test.YtcadknfcahmdcaaGreatRows
import Derived.BigQuiet
import Derived.Great.Walk
namespace Go.Proofs.YtcadknfcahmdcaaGreat
open Go.RowKit Go.Qz
set_option linter.unusedVariables false

theorem flat_len {α : Type} (f : Nat → List α) (s : Nat) (hf : ∀ j, (f j).length = s) : ∀ m, ((List.range m).flatMap f).length = m * s
  | 0 => by simp
  | m + 1 => by rw [List.range_succ, List.flatMap_append, List.length_append, flat_len f s hf m, Nat.succ_mul]; simp [hf]
theorem flat_at {α : Type} (f : Nat → List α) (s : Nat) (hf : ∀ j, (f j).length = s) : ∀ m j i, j < m → i < s → ((List.range m).flatMap f)[j * s + i]? = (f j)[i]?
  | 0, j, i, hj, _ => absurd hj (by omega)
  | m + 1, j, i, hj, hi => by
    rw [List.range_succ, List.flatMap_append]
    by_cases h : j < m
    · have hl : j * s + i < ((List.range m).flatMap f).length := by
        rw [flat_len f s hf]
        have : (j + 1) * s ≤ m * s := Nat.mul_le_mul_right s h
        rw [Nat.succ_mul] at this; omega
      rw [List.getElem?_append_left hl]; exact flat_at f s hf m j i h hi
    · obtain rfl : j = m := by omega
      rw [List.getElem?_append_right (by rw [flat_len f s hf]; omega), flat_len f s hf, show j * s + i - j * s = i by omega]
      simp
/-- A row of structs of the call's own, read cell by cell. -/
theorem own_structs {w : World} {base : Nat} {e : TypeId} {s m : Nat} {v : Value} (f : Nat → List Value) (hf : ∀ j, (f j).length = s) (h : w.ownsRow base e s v m ((List.range m).flatMap f)) :
    ∃ A c, v = .slice A m c ∧ m ≤ c ∧ c ≤ maxLen ∧ (0 < m → ∃ b off, A = some ⟨b, off, none⟩ ∧ b < w.heap.size ∧ ∀ j, j < m → ∀ i u, (f j)[i]? = some u → w.cell? ⟨b, off + j * s + i, none⟩ = some u) := by
  rcases h.2 with ⟨rfl, rfl⟩ | ⟨g, cap, cur, rfl, hb, hh, hc, hm, hz, ht⟩
  · exact ⟨none, 0, rfl, Nat.le_refl _, by unfold maxLen; omega, fun h => absurd h (by omega)⟩
  · refine ⟨_, _, rfl, hc, hm, fun _ => ⟨g, 0, rfl, (Array.getElem?_eq_some_iff.1 hh).1, fun j hj i u hu => ?_⟩⟩
    have hi : i < s := by
      rcases Nat.lt_or_ge i s with h | h
      · exact h
      · rw [List.getElem?_eq_none (by rw [hf]; exact h)] at hu; cases hu
    rw [cell_of_row w g _ cur e (0, 0) hh, Nat.zero_add]
    have h1 := flat_at f s hf m j i hj hi
    rw [hu, ← ht, List.getElem?_take] at h1
    split at h1
    · simpa using h1
    · cases h1

/-- 'v = append(v, u)' onto a row of the call's own, u a value of several cells: behind the new block that holds u. -/
theorem wpList_pushS {P : Program} {W : World} {ops : Array Oper} {rest : List Oper} {o : Oper} {a : Act} {Q : Exit → Act → World → Prop} (s x : Operand) (t : TypeId)
    (base : Nat) (e : TypeId) (z : Value) (size bytes : Nat) (v : Value) (n : Nat) (xs : List Value) (us : List Value) (hul : us.length = size) (hsz : 0 < size)
    (hgd : o.guard = none) (ho : o.op = .call { callee := .builtin .append, args := #[s, x], argTypes := #[t, t] })
    (hs : a.eval s = v) (hx : a.eval x = .slice (some ⟨W.heap.size, 0, none⟩) 1 1)
    (ht : P.underlying t = some (.slice e)) (hi : (P.info? e).map (fun i => (i.zero, i.size, i.bytes)) = some (some z, size, bytes)) (hzs : z.cells.size = size) (h1 : ∀ u ∈ us, u.oneCell' = true) (hb : bytes ≤ 64)
    (hown : W.ownsRow base e size v n xs) (hn : n < 1099511627776) (hbase : base ≤ W.heap.size)
    (h : ∀ v' w', w'.ownsRow base e size v' (n + 1) (xs ++ us) → W.grownBy w' v.ownBlock → Below base W w' → (v'.ownBlock = v.ownBlock ∨ v'.ownBlock = some (W.heap.size + 1)) → wpList P ops Q rest (a.put o.dst v') w') :
    wpList P ops Q (o :: rest) a (W.alloc (.cells us.toArray e)) := by
  obtain ⟨i0, hi, hz0, hz1, hz2⟩ := info_parts hi
  refine wpList_append_own_at _ hgd s x t ho base e i0 z size bytes ht hi hz0 hz1 hz2 hzs hsz v n xs hs (hown.alloc _) ⟨W.heap.size, 0, none⟩ 1 1 us hx (by rw [Nat.one_mul]; exact hul) ?_ h1 ?_ ?_ ?_ ?_
  · intro j u' hu
    rw [Addr.add_lit, World.cell?_alloc_at _ _ _ _ rfl]
    simpa using hu
  · unfold maxLen; omega
  · have : (n + 1) * bytes ≤ 1099511627776 * 64 := Nat.mul_le_mul (by omega) hb
    omega
  · simp; omega
  · intro v' w' g1 g2 _ g4
    have g3 : W.grownBy w' v.ownBlock :=
      ⟨g2.os, g2.tape, g2.output, Nat.le_trans (by simp) g2.size, fun k hk hne => (g2.block k (by simp; omega) hne).trans (Below.heap_alloc W _ k hk)⟩
    exact h v' w' g1 g3 ((Below.refl _ _).grown g3 hbase fun k hk => (hown.lt k hk).1) (by simpa using g4)
/-- A size. -/
structure DS where
  rows : Nat
  cols : Nat
  rr : Nat
  rc : Nat
  dt : Nat
  er : Nat
  bl : Nat
def dcells (s : DS) : List Value := [.int .i64 s.rows, .int .i64 s.cols, .int .i64 s.rr, .int .i64 s.rc, .int .i64 s.dt, .int .i64 s.er, .int .i64 s.bl]
def dsv (s : DS) : Value := .agg #[.int .i64 s.rows, .int .i64 s.cols, .int .i64 s.rr, .int .i64 s.rc, .int .i64 s.dt, .int .i64 s.er, .int .i64 s.bl]
theorem dcellsOf {w : World} {b : Nat} {s : DS} (h : Arr w 28 b (dcells s)) : w.cell? ⟨b, 0, none⟩ = some (.int .i64 s.rows) ∧ w.cell? ⟨b, 1, none⟩ = some (.int .i64 s.cols) ∧ w.cell? ⟨b, 2, none⟩ = some (.int .i64 s.rr) ∧ w.cell? ⟨b, 3, none⟩ = some (.int .i64 s.rc) ∧ w.cell? ⟨b, 4, none⟩ = some (.int .i64 s.dt) ∧ w.cell? ⟨b, 5, none⟩ = some (.int .i64 s.er) ∧ w.cell? ⟨b, 6, none⟩ = some (.int .i64 s.bl) :=
  ⟨h.cell? 0, h.cell? 1, h.cell? 2, h.cell? 3, h.cell? 4, h.cell? 5, h.cell? 6⟩
/-- The sizes: sides, sides of a region, words of data and of error correction, blocks. -/
def szL : List (List Nat) := [[10, 10, 8, 8, 3, 5, 1], [12, 12, 10, 10, 5, 7, 1], [8, 18, 6, 16, 5, 7, 1], [14, 14, 12, 12, 8, 10, 1], [8, 32, 6, 14, 10, 11, 1], [16, 16, 14, 14, 12, 12, 1],
  [12, 26, 10, 24, 16, 14, 1], [18, 18, 16, 16, 18, 14, 1], [20, 20, 18, 18, 22, 18, 1], [12, 36, 10, 16, 22, 18, 1], [22, 22, 20, 20, 30, 20, 1], [16, 36, 14, 16, 32, 24, 1],
  [24, 24, 22, 22, 36, 24, 1], [26, 26, 24, 24, 44, 28, 1], [16, 48, 14, 22, 49, 28, 1], [32, 32, 14, 14, 62, 36, 1], [36, 36, 16, 16, 86, 42, 1], [40, 40, 18, 18, 114, 48, 1],
  [44, 44, 20, 20, 144, 56, 1], [48, 48, 22, 22, 174, 68, 1], [52, 52, 24, 24, 204, 84, 2], [64, 64, 14, 14, 280, 112, 2], [72, 72, 16, 16, 368, 144, 4], [80, 80, 18, 18, 456, 192, 4],
  [88, 88, 20, 20, 576, 224, 4], [96, 96, 22, 22, 696, 272, 4], [104, 104, 24, 24, 816, 336, 6], [120, 120, 18, 18, 1050, 408, 6], [132, 132, 20, 20, 1304, 496, 8], [144, 144, 22, 22, 1558, 620, 10]]
def sz (t : Nat) : DS := ⟨nth (szL.getD t []) 0, nth (szL.getD t []) 1, nth (szL.getD t []) 2, nth (szL.getD t []) 3, nth (szL.getD t []) 4, nth (szL.getD t []) 5, nth (szL.getD t []) 6⟩
def tabV : List Value := (List.range 30).flatMap fun t => dcells (sz t)
def TabPost (w : World) (e : Ending) (w' : World) : Prop := ∃ b : Nat, e = .returned (.slice (some ⟨b, 0, none⟩) 30 30) ∧ Below w.heap.size w w' ∧ Hid (Arr w' 28 b tabV)
set_option maxRecDepth 100000 in
set_option maxHeartbeats 3200000 in
theorem dmSizes (w : World) : Calls Tryz.prog 18 #[] w (TabPost w) := by
  go_enter Tryz.func18, Tryz.ntmps18
  go_wp2_with (first | (refine Great.wpList_readTo rfl (some 1) rfl (dsv (sz 0)) (by kernel_rfl) ?_) | (refine Great.wpList_readTo rfl (some 2) rfl (dsv (sz 1)) (by kernel_rfl) ?_) | (refine Great.wpList_readTo rfl (some 3) rfl (dsv (sz 2)) (by kernel_rfl) ?_) | (refine Great.wpList_readTo rfl (some 4) rfl (dsv (sz 3)) (by kernel_rfl) ?_) | (refine Great.wpList_readTo rfl (some 5) rfl (dsv (sz 4)) (by kernel_rfl) ?_) | (refine Great.wpList_readTo rfl (some 6) rfl (dsv (sz 5)) (by kernel_rfl) ?_) | (refine Great.wpList_readTo rfl (some 7) rfl (dsv (sz 6)) (by kernel_rfl) ?_) | (refine Great.wpList_readTo rfl (some 8) rfl (dsv (sz 7)) (by kernel_rfl) ?_) | (refine Great.wpList_readTo rfl (some 9) rfl (dsv (sz 8)) (by kernel_rfl) ?_) | (refine Great.wpList_readTo rfl (some 10) rfl (dsv (sz 9)) (by kernel_rfl) ?_) | (refine Great.wpList_readTo rfl (some 11) rfl (dsv (sz 10)) (by kernel_rfl) ?_) | (refine Great.wpList_readTo rfl (some 12) rfl (dsv (sz 11)) (by kernel_rfl) ?_) | (refine Great.wpList_readTo rfl (some 13) rfl (dsv (sz 12)) (by kernel_rfl) ?_) | (refine Great.wpList_readTo rfl (some 14) rfl (dsv (sz 13)) (by kernel_rfl) ?_) | (refine Great.wpList_readTo rfl (some 15) rfl (dsv (sz 14)) (by kernel_rfl) ?_) | (refine Great.wpList_readTo rfl (some 16) rfl (dsv (sz 15)) (by kernel_rfl) ?_) | (refine Great.wpList_readTo rfl (some 17) rfl (dsv (sz 16)) (by kernel_rfl) ?_) | (refine Great.wpList_readTo rfl (some 18) rfl (dsv (sz 17)) (by kernel_rfl) ?_) | (refine Great.wpList_readTo rfl (some 19) rfl (dsv (sz 18)) (by kernel_rfl) ?_) | (refine Great.wpList_readTo rfl (some 20) rfl (dsv (sz 19)) (by kernel_rfl) ?_) | (refine Great.wpList_readTo rfl (some 21) rfl (dsv (sz 20)) (by kernel_rfl) ?_) | (refine Great.wpList_readTo rfl (some 22) rfl (dsv (sz 21)) (by kernel_rfl) ?_) | (refine Great.wpList_readTo rfl (some 23) rfl (dsv (sz 22)) (by kernel_rfl) ?_) | (refine Great.wpList_readTo rfl (some 24) rfl (dsv (sz 23)) (by kernel_rfl) ?_) | (refine Great.wpList_readTo rfl (some 25) rfl (dsv (sz 24)) (by kernel_rfl) ?_) | (refine Great.wpList_readTo rfl (some 26) rfl (dsv (sz 25)) (by kernel_rfl) ?_) | (refine Great.wpList_readTo rfl (some 27) rfl (dsv (sz 26)) (by kernel_rfl) ?_) | (refine Great.wpList_readTo rfl (some 28) rfl (dsv (sz 27)) (by kernel_rfl) ?_) | (refine Great.wpList_readTo rfl (some 29) rfl (dsv (sz 28)) (by kernel_rfl) ?_) | (refine Great.wpList_readTo rfl (some 30) rfl (dsv (sz 29)) (by kernel_rfl) ?_) | (refine Great.wpList_buildSliceTo rfl 45 28 30 _ rfl w.heap.size rfl (some 31) rfl (by kernel_rfl) tabV.toArray (by kernel_rfl) ?_))
  go_ret
  exact ⟨w.heap.size, rfl, (Below.refl _ _).alloc (Nat.le_refl _) _, Lib.hid (Arr.new _ _ _)⟩
theorem tabV_at : ∀ t, t < 30 → tabV[t * 7]? = some (.int .i64 (sz t).rows) ∧ tabV[t * 7 + 1]? = some (.int .i64 (sz t).cols) ∧ tabV[t * 7 + 2]? = some (.int .i64 (sz t).rr) ∧ tabV[t * 7 + 3]? = some (.int .i64 (sz t).rc) ∧ tabV[t * 7 + 4]? = some (.int .i64 (sz t).dt) ∧ tabV[t * 7 + 5]? = some (.int .i64 (sz t).er) ∧ tabV[t * 7 + 6]? = some (.int .i64 (sz t).bl) := by
  intro t ht
  have h30 : t = 0 ∨ t = 1 ∨ t = 2 ∨ t = 3 ∨ t = 4 ∨ t = 5 ∨ t = 6 ∨ t = 7 ∨ t = 8 ∨ t = 9 ∨ t = 10 ∨ t = 11 ∨ t = 12 ∨ t = 13 ∨ t = 14 ∨ t = 15 ∨ t = 16 ∨ t = 17 ∨ t = 18 ∨ t = 19 ∨ t = 20 ∨ t = 21 ∨ t = 22 ∨ t = 23 ∨ t = 24 ∨ t = 25 ∨ t = 26 ∨ t = 27 ∨ t = 28 ∨ t = 29 := by omega
  rcases h30 with rfl | rfl | rfl | rfl | rfl | rfl | rfl | rfl | rfl | rfl | rfl | rfl | rfl | rfl | rfl | rfl | rfl | rfl | rfl | rfl | rfl | rfl | rfl | rfl | rfl | rfl | rfl | rfl | rfl | rfl <;> exact ⟨rfl, rfl, rfl, rfl, rfl, rfl, rfl⟩

theorem info7 : (Tryz.prog.info? 28).map (·.size) = some 7 := by kernel_rfl
theorem one7 (s : DS) : (dcells s).toArray.all (·.oneCell') = true := by simp [dcells]; exact ⟨rfl, rfl, rfl, rfl, rfl, rfl, rfl⟩
theorem results_cell1 {P : Program} {fn : Func} {p q : Tmp} {ty tq : TypeId} (h : fn.results = #[.cell p ty, .tmp q]) (tmps : Array Value) (w : World) (g1 : Nat) (t : TypeId) (c1 : Array Value) (d : TypeDesc)
    (hp : tmps.getD p undef = .pointer (some ⟨g1, 0, none⟩)) (hg1 : w.heap[g1]? = some (.cells c1 t (0, 0)))
    (hu : P.underlying ty = some d) (hd : (match d with | .struct _ | .array _ _ => true | _ => false) = true) (hi1 : (P.info? ty).map (·.size) = some c1.size) :
    (results fn tmps).run P w = .ok (.tuple #[.agg c1, tmps.getD q undef]) w := by
  have hp' : tmps[p]?.getD undef = .pointer (some ⟨g1, 0, none⟩) := by simpa using hp
  simp [results, h, hp', asAddr, run_loadVar_row w g1 t ty c1 (0, 0) d hg1 hu hd hi1]
theorem dt_le : ∀ t, t < 30 → (sz t).dt ≤ 1558 := by decide
end Go.Proofs.YtcadknfcahmdcaaGreat
