/-
  The decoder of QR words: its state, its small functions. No condition beyond the bounds that each theorem states.
-/
import Derived.Test.YthkiajighmhdoaaQAG
import Derived.Test.YthkiajighmhdoaaQWE
import Derived.Test.YthkiajighmhdoaaBIS3
import Derived.Test.YthkiajighmhdoaaSTR
namespace Go.Proofs.Ythkiajighmhdoaa
open Go.RowKit Go.Qz Go.Qz.BS Go.Qz.QA
set_option linter.unusedVariables false

def bl (l : List Nat) : List Value := l.map fun x : Nat => Value.int .u8 x
theorem bl_snoc (l : List Nat) (x : Nat) : bl (l ++ [x]) = bl l ++ [.int .u8 (x : Nat)] := by simp [bl]
/-- What a segment leaves as it was. -/
def Stay (w wr : World) (p : Nat) (v0 v : Value) : Prop := Mod (fun k => k = p ∨ v0.ownBlock = some k) w wr ∧ (v.ownBlock = v0.ownBlock ∨ ∃ k, v.ownBlock = some k ∧ w.heap.size ≤ k)
theorem Stay.refl (w : World) (p : Nat) (v : Value) : Stay w w p v v := ⟨Mod.refl _, .inl rfl⟩
theorem Stay.drewN {w wr : World} {p : Nat} {v0 v : Value} (h : Stay w wr p v0 v) (k : Nat) : Stay w (wr.drewN k) p v0 v := ⟨h.1.drewN k, h.2⟩
theorem Stay.read {w wr w' : World} {p : Nat} {v0 v : Value} (h : Stay w wr p v0 v) (hm : Mod (· = p) wr w') : Stay w w' p v0 v := ⟨h.1.then hm (fun i _ h => .inl h), h.2⟩
theorem Stay.grow {w wr w' : World} {p : Nat} {v0 v v' : Value} (h : Stay w wr p v0 v) (hg : wr.grownBy w' v.ownBlock) (hl : v'.ownBlock = v.ownBlock ∨ ∃ k, v'.ownBlock = some k ∧ wr.heap.size ≤ k) : Stay w w' p v0 v' := by
  refine ⟨h.1.grown hg (fun k hk => ?_), ?_⟩
  · rcases h.2 with h2 | ⟨j, h2, h3⟩
    · exact .inl (.inr (by rw [← h2]; exact hk))
    · rw [h2] at hk; injection hk with hk; exact .inr (by omega)
  · rcases hl with h1 | ⟨j, h1, h2⟩
    · rw [h1]; exact h.2
    · exact .inr ⟨j, h1, Nat.le_trans h.1.size h2⟩
theorem Stay.below {w wr w' : World} {p : Nat} {v0 v : Value} (h : Stay w wr p v0 v) (hb : Below wr.heap.size wr w') : Stay w w' p v0 v := ⟨h.1.then (Mod.of_below (S := fun _ => False) hb) (fun i _ h => False.elim h), h.2⟩
theorem Stay.trans {w a b : World} {p : Nat} {v0 v1 v2 : Value} (h : Stay w a p v0 v1) (k : Stay a b p v1 v2) : Stay w b p v0 v2 := by
  refine ⟨h.1.then k.1 (fun i hi hs => ?_), ?_⟩
  · rcases hs with hs | hs
    · exact .inl hs
    · rcases h.2 with h2 | ⟨j, h2, h3⟩
      · exact .inr (by rw [← h2]; exact hs)
      · rw [h2] at hs; injection hs with hs; omega
  · rcases k.2 with k2 | ⟨j, k2, k3⟩
    · rw [k2]; exact h.2
    · exact .inr ⟨j, k2, Nat.le_trans h.1.size k3⟩
/-- The state of a decoder: the source at bit P, the bytes, what is said. -/
structure QSt (B : List Nat) (p : Nat) (A : Option Addr) (c P : Nat) (v : Value) (R : List Nat) (w : World) : Prop where
  src : SrcAt w p A B.length c (P / 8) (P % 8)
  rd : Rd w A B.length (fun j => .int .u8 (nth B j : Nat))
  own : w.ownsRow (p + 1) 5 1 v R.length (bl R)
  far : ∀ a, A = some a → a.block < p
variable {B : List Nat} {p : Nat} {A : Option Addr} {c P : Nat} {v v' : Value} {R R' : List Nat} {w w' : World}
theorem QSt.drewN (h : QSt B p A c P v R w) (k : Nat) : QSt B p A c P v R (w.drewN k) := ⟨h.src, h.rd, h.own, h.far⟩
theorem QSt.read {P' : Nat} (h : QSt B p A c P v R w) (hs : SrcAt w' p A B.length c (P' / 8) (P' % 8)) (hm : Mod (· = p) w w') : QSt B p A c P' v R w' :=
  ⟨hs, hm.rd h.rd (fun a ha _ e => by have := h.far a ha; have e : a.block = p := e; omega), own_mod h.own hm (fun k hk e => by have := (h.own.lt k hk).1; have e : k = p := e; omega), h.far⟩
theorem QSt.grow (h : QSt B p A c P v R w) (hb : Below (p + 1) w w') (ho : w'.ownsRow (p + 1) 5 1 v' R'.length (bl R')) : QSt B p A c P v' R' w' :=
  ⟨Arr.below h.src hb (Nat.lt_succ_self p), (Mod.of_belowE hb).rd h.rd (fun a ha _ e => by have := h.far a ha; have e : p + 1 ≤ a.block := e; omega), ho, h.far⟩
theorem QSt.plt (h : QSt B p A c P v R w) : p < w.heap.size := Arr.lt h.src
theorem QSt.far2 (h : QSt B p A c P v R w) : ∀ a, A = some a → a.block ≠ p := fun a ha e => by have := h.far a ha; omega
theorem room {S M rest : List Bool} (h : S.drop P = M ++ rest) (hr : 8 ≤ rest.length) : P + M.length ≤ 8 * (S.length / 8) := by
  have := congrArg List.length h
  rw [List.length_drop, List.length_append] at this
  omega
/-- A field read. -/
def RdPost (B : List Nat) (p : Nat) (A : Option Addr) (c P x : Nat) (v : Value) (R : List Nat) (w : World) (e : Ending) (w' : World) : Prop :=
  e = .returned (.tuple #[.int .i64 (x : Nat), .nilIface]) ∧ Hid (QSt B p A c P v R w') ∧ Hid (Mod (· = p) w w')
theorem rdF (K : Int) (k : Nat) (hK : K = k) (S : List Bool) (hB : B = by8 S) (hBn : B.length < 1000000) (x : Nat) (hx : x < 2 ^ k) (hk1 : 1 ≤ k) (hk : k ≤ 32) (rest : List Bool) (hf : S.drop P = bo x k ++ rest) (hr : 8 ≤ rest.length) (h : QSt B p A c P v R w) :
    Calls Try.prog 53 #[.pointer (some ⟨p, 0, none⟩), .int .i64 K] w (RdPost B p A c (P + k) x v R w) := by
  subst hK
  have hroom := room hf hr
  rw [bo_len] at hroom
  have hlen : B.length = S.length / 8 := by rw [hB, by8_len]
  have hlt : ∀ j, nth B j < 256 := fun j => by
    by_cases hj : j < B.length
    · exact by8_lt S _ (by rw [← hB]; exact nth_mem hj)
    · unfold nth; rw [List.getD_eq_getElem?_getD, List.getElem?_eq_none (by omega)]; simp
  refine (readBits B p A c P k hk1 hk (by omega) hlt hBn w h.src h.rd h.far2).mono ?_
  rintro e w' ⟨rfl, hs, hm⟩
  refine ⟨?_, Lib.hid (h.read hs hm), Lib.hid hm⟩
  rw [hB, num_bo S P x k rest hf hx hroom]
/-- How many bits are left. -/
theorem avF (m : Nat) (hm : m + P = 8 * B.length) (hBn : B.length < 1000000) (h : QSt B p A c P v R w) :
    Calls Try.prog 52 #[.pointer (some ⟨p, 0, none⟩)] w fun e w' => e = .returned (.int .i64 m) ∧ ∃ k, w' = w.drewN k :=
  available p A B.length c (P / 8) (P % 8) m (by omega) hBn w h.src

set_option maxRecDepth 100000 in
theorem modeFor (m : Nat) (hm : m = 0 ∨ m = 1 ∨ m = 2 ∨ m = 3 ∨ m = 4) (w : World) : Calls Try.prog 54 #[.int .i64 m] w fun e w' => e = .returned (.tuple #[.int .i64 m, .nilIface]) ∧ w = w' := by
  rcases hm with rfl | rfl | rfl | rfl | rfl
  all_goals
    go_enter Try.func54, Try.ntmps54
    go_wp2_with fail
    go_ret2
    exact ⟨rfl, rfl⟩
set_option maxRecDepth 100000 in
theorem levelText (l : Nat) (hl : l < 4) (w : World) : Calls Try.prog 66 #[.int .i64 l] w fun e w' => e = .returned (.string (lvName l)) ∧ w = w' := by
  have h : l = 0 ∨ l = 1 ∨ l = 2 ∨ l = 3 := by omega
  rcases h with rfl | rfl | rfl | rfl
  all_goals
    go_enter Try.func66, Try.ntmps66
    go_wp2_with fail
    go_ret
    exact ⟨rfl, rfl⟩
set_option maxRecDepth 100000 in
theorem srcNew (A : Option Addr) (n c : Nat) (w : World) :
    Calls Try.prog 51 #[.slice A n c] w fun e w' => e = .returned (.pointer (some ⟨w.heap.size, 0, none⟩)) ∧ SrcAt w' w.heap.size A n c 0 0 ∧ Below w.heap.size w w' ∧ w.heap.size < w'.heap.size := by
  go_enter Try.func51, Try.ntmps51
  go_wp2_with fail
  go_ret
  exact ⟨rfl, Arr.new _ _ _, (Below.refl _ _).alloc (Nat.le_refl _) _, by simp⟩
def alB : ByteArray := ⟨#[48, 49, 50, 51, 52, 53, 54, 55, 56, 57, 65, 66, 67, 68, 69, 70, 71, 72, 73, 74, 75, 76, 77, 78, 79, 80, 81, 82, 83, 84, 85, 86, 87, 88, 89, 90, 32, 36, 37, 42, 43, 45, 46, 47, 58]⟩
theorem alB_eq : alB = bs alS := by decide
theorem sb_alS : sb (bs alS) = alS := sb_bs _ (by decide)
set_option maxRecDepth 100000 in
theorem alphaChar (n : Nat) (hn : n < 45) (w : World) : Calls Try.prog 83 #[.int .i64 n] w fun e w' => e = .returned (.tuple #[.int .u8 (alOf n : Nat), .nilIface]) ∧ w = w' := by
  have hg : ((45 : Int) ≤ (n : Int)) = False := by simp; omega
  have hx : ∀ W, (Instr.index 9 (.string (bs alS)) (.int .i64 n)).run Try.prog W = .ok (.int .u8 (nth (sb (bs alS)) n : Nat)) W := fun W => str_at (by kernel_rfl) (bs alS) n (by rw [bs_size]; exact hn) W
  rw [sb_alS] at hx
  obtain ⟨x, hxx⟩ : ∃ x, x = nth alS n := ⟨_, rfl⟩
  rw [show alOf n = x from hxx.symm]
  rw [← hxx] at hx
  rw [← alB_eq] at hx
  unfold alB at hx
  clear hxx hn
  go_enter Try.func83, Try.ntmps83
  go_wp2_with fail
  go_ret2
  exact ⟨rfl, rfl⟩
end Go.Proofs.Ythkiajighmhdoaa
