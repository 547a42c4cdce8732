/-
  The law's segments, made out of what came in, walked. No condition beyond the bounds that each theorem states.
-/
import Derived.Test.YthkiajighmhdoaaQAE
namespace Go.Proofs.Ythkiajighmhdoaa
open Go.RowKit Go.Qz Go.Qz.QA
set_option linter.unusedVariables false

def fm3 (k : Nat) : Nat := if k = 0 then 1 else if k = 1 then 2 else 4
def fch (m x : Nat) : Nat := if m = 1 then 48 + x % 10 else if m = 2 then alOf (x % 45) else 32 + x % 95
theorem fch2 : ∀ n, n < 45 → alNum (alOf n) < 45 ∧ alOf (alNum (alOf n)) = alOf n ∧ 32 ≤ alOf n ∧ alOf n ≤ 126 := by decide
theorem fch_ok (m x : Nat) (hm : m = 1 ∨ m = 2 ∨ m = 4) : okIn m (fch m x) ∧ 32 ≤ fch m x ∧ fch m x ≤ 126 := by
  unfold okIn
  rcases hm with rfl | rfl | rfl
  · have e : fch 1 x = 48 + x % 10 := rfl
    rw [e]
    refine ⟨?_, by omega, by omega⟩
    simp; omega
  · have h := fch2 (x % 45) (Nat.mod_lt _ (by omega))
    have e : fch 2 x = alOf (x % 45) := rfl
    rw [e]
    refine ⟨?_, h.2.2.1, h.2.2.2⟩
    simp; exact ⟨h.1, h.2.1⟩
  · have e : fch 4 x = 32 + x % 95 := rfl
    rw [e]
    refine ⟨?_, by omega, by omega⟩
    simp; omega
set_option maxRecDepth 100000 in
theorem three_at (k : Nat) (hk : k < 3) (W : World) : (Instr.index 51 (.agg #[.int .i64 1, .int .i64 2, .int .i64 4]) (.int .i64 ((k : Nat) : Int))).run Try.prog W = .ok (.int .i64 ((fm3 k : Nat) : Int)) W := by
  have : k = 0 ∨ k = 1 ∨ k = 2 := by omega
  rcases this with rfl | rfl | rfl <;> rfl
theorem Try.infoSegQ : (Try.prog.info? 49).map (fun i => (i.zero, i.size, i.bytes)) = some (some (.agg #[.int .i64 0, .slice none 0 0]), 2, 32) := by kernel_rfl
/-- The cells of segments: modes and texts. -/
def sgc (S : List (Nat × List Nat)) (V : Nat → Value) (k : Nat) : List Value := (List.range k).flatMap fun j => [.int .i64 (mo S j : Nat), V j]
/-- Where the texts lie. -/
def Txs (w : World) (base : Nat) (v : Value) (S : List (Nat × List Nat)) (V : Nat → Value) : Prop := ∀ j, j < S.length → ∃ A c, V j = .slice A (tx S j).length c ∧ (tx S j).length ≤ c ∧ Rd w A (tx S j).length (fun i => .int .u8 (nth (tx S j) i : Nat)) ∧ ∀ a, A = some a → base ≤ a.block ∧ a.block < w.heap.size ∧ v.ownBlock ≠ some a.block
theorem mo_snoc (S : List (Nat × List Nat)) (s : Nat × List Nat) (j : Nat) : mo (S ++ [s]) j = if j < S.length then mo S j else if j = S.length then s.1 else 0 := by
  unfold mo
  rw [List.getD_eq_getElem?_getD, List.getD_eq_getElem?_getD, List.getElem?_append]
  split
  · rfl
  · split
    · rename_i h1 h2; subst h2; simp
    · rename_i h1 h2
      have : ([s] : List (Nat × List Nat))[j - S.length]? = none := List.getElem?_eq_none (by simp; omega)
      rw [this]; rfl
theorem tx_snoc (S : List (Nat × List Nat)) (s : Nat × List Nat) (j : Nat) : tx (S ++ [s]) j = if j < S.length then tx S j else if j = S.length then s.2 else [] := by
  unfold tx
  rw [List.getD_eq_getElem?_getD, List.getD_eq_getElem?_getD, List.getElem?_append]
  split
  · rfl
  · split
    · rename_i h1 h2; subst h2; simp
    · rename_i h1 h2
      have : ([s] : List (Nat × List Nat))[j - S.length]? = none := List.getElem?_eq_none (by simp; omega)
      rw [this]; rfl
theorem sgc_snoc (S : List (Nat × List Nat)) (s : Nat × List Nat) (V : Nat → Value) (u : Value) : sgc (S ++ [s]) (fun j => if j = S.length then u else V j) (S.length + 1) = sgc S V S.length ++ [.int .i64 (s.1 : Nat), u] := by
  unfold sgc
  rw [List.range_succ, List.flatMap_append]
  congr 1
  · have : ∀ l : List Nat, (∀ j ∈ l, j < S.length) → l.flatMap (fun j => [Value.int .i64 ((mo (S ++ [s]) j : Nat) : Int), if j = S.length then u else V j]) = l.flatMap (fun j => [Value.int .i64 ((mo S j : Nat) : Int), V j]) := by
      intro l hl
      induction l with
      | nil => rfl
      | cons a r ih =>
        rw [List.flatMap_cons, List.flatMap_cons, ih (fun j hj => hl j (List.mem_cons_of_mem _ hj))]
        have := hl a (by simp)
        rw [mo_snoc, if_pos this, if_neg (by omega)]
    exact this _ (fun j hj => List.mem_range.1 hj)
  · simp only [List.flatMap_cons, List.flatMap_nil, List.append_nil]
    rw [mo_snoc, if_neg (Nat.lt_irrefl _), if_pos rfl]
    simp
def SegsPost (w : World) (e : Ending) (w' : World) : Prop :=
  ∃ A n c S, e = .returned (.slice A n c) ∧ n = S.length ∧ n ≤ 2 ∧ Hid (∀ s ∈ S, okSeg s) ∧ Hid (Sgs w' A S) ∧ Hid (Below w.heap.size w w')
theorem sgs_of {w : World} {base : Nat} {A : Option Addr} {c : Nat} {S : List (Nat × List Nat)} {V : Nat → Value} (ho : w.ownsRow base 49 2 (.slice A S.length c) S.length (sgc S V S.length)) (ht : Txs w base (.slice A S.length c) S V) : Sgs w A S := fun j hj => by
  rcases ho.2 with ⟨e, hz⟩ | ⟨g, cap, cur, e, hb, hh, hc, hm, hz, htk⟩
  · omega
  · injection e with e1 e2 e3
    subst e1
    have hlen : ((List.range S.length).flatMap fun j => [Value.int .i64 ((mo S j : Nat) : Int), V j]).length = 2 * S.length := by
      have : ∀ l : List Nat, (l.flatMap fun j => [Value.int .i64 ((mo S j : Nat) : Int), V j]).length = 2 * l.length := by
        intro l
        induction l with
        | nil => rfl
        | cons a r ih => rw [List.flatMap_cons, List.length_append, ih]; simp; omega
      rw [this, List.length_range]
    have hat : ∀ m, j < m → ∀ i, i < 2 → ((List.range m).flatMap fun j => [Value.int .i64 ((mo S j : Nat) : Int), V j])[j * 2 + i]? = [Value.int .i64 ((mo S j : Nat) : Int), V j][i]? := by
      intro m
      induction m with
      | zero => intro h; omega
      | succ m ih =>
        intro h i hi
        have hl : ((List.range m).flatMap fun j => [Value.int .i64 ((mo S j : Nat) : Int), V j]).length = 2 * m := by
          have : ∀ l : List Nat, (l.flatMap fun j => [Value.int .i64 ((mo S j : Nat) : Int), V j]).length = 2 * l.length := by
            intro l
            induction l with
            | nil => rfl
            | cons a r ih => rw [List.flatMap_cons, List.length_append, ih]; simp; omega
          rw [this, List.length_range]
        rw [List.range_succ, List.flatMap_append]
        by_cases hjm : j < m
        · rw [List.getElem?_append_left (by rw [hl]; omega)]
          exact ih hjm i hi
        · obtain rfl : j = m := by omega
          rw [List.getElem?_append_right (by rw [hl]; omega), hl, show j * 2 + i - 2 * j = i by omega]
          simp
    have hcell : ∀ i u, i < 2 → [Value.int .i64 ((mo S j : Nat) : Int), V j][i]? = some u → w.cell? ⟨g, 0 + j * 2 + i, none⟩ = some u := fun i u hi hu => by
      rw [Nat.zero_add, cell_of_row w g _ cur _ (0, 0) hh]
      have h1 := hat S.length hj i hi
      have h2 : (sgc S V S.length)[j * 2 + i]? = some u := by unfold sgc; rw [h1]; exact hu
      rw [← htk, List.getElem?_take] at h2
      split at h2
      · simpa using h2
      · cases h2
    obtain ⟨A', c', hv, hcc, hr, hf⟩ := ht j hj
    refine ⟨g, 0, rfl, (Array.getElem?_eq_some_iff.1 hh).1, by have := hcell 0 _ (by omega) rfl; rwa [Nat.add_zero] at this, A', c', by rw [← hv]; exact hcell 1 _ (by omega) rfl, hcc, hr, fun a ha => (hf a ha).2.1⟩
end Go.Proofs.Ythkiajighmhdoaa
