/-
  Messages of Aztec codes in small steps: their bits and their text (plain). No program in sight but the names of its tables.
-/
import Derived.Test.YtiielblnmfeapaaGreatDoorAZS
namespace Go.Proofs.YtiielblnmfeapaaGreatDoor
open Go.RowKit Go.Qz
set_option linter.unusedVariables false

/-- The n lowest bits of c, the highest first. -/
def bitsOf (c n : Nat) : List Bool := (List.range n).map fun j => c.testBit (n - 1 - j)
theorem bitsOf_len (c n : Nat) : (bitsOf c n).length = n := by simp [bitsOf]
theorem bitsOf_at (c n j : Nat) (h : j < n) : nthB (bitsOf c n) j = c.testBit (n - 1 - j) := by
  rw [nthB_eq (by rw [bitsOf_len]; exact h)]; simp [bitsOf]
/-- The number that t bits from i on say. -/
def vl (L : List Bool) (i : Nat) : Nat → Nat
  | 0 => 0
  | t + 1 => 2 * vl L i t + (nthB L (i + t)).toNat
theorem nthB_drop {L M rest : List Bool} {i j : Nat} (h : L.drop i = M ++ rest) (hj : j < M.length) : nthB L (i + j) = nthB M j := by
  unfold nthB
  rw [List.getD_eq_getElem?_getD, List.getD_eq_getElem?_getD, ← List.getElem?_drop, h, List.getElem?_append_left hj]
theorem vl_up (L : List Bool) (i c n : Nat) (rest : List Bool) (h : L.drop i = bitsOf c n ++ rest) (hc : c < 2 ^ n) : ∀ t, t ≤ n → vl L i t = c / 2 ^ (n - t)
  | 0, _ => by show 0 = _; rw [Nat.sub_zero, Nat.div_eq_of_lt hc]
  | t + 1, ht => by
    have ih := vl_up L i c n rest h hc t (by omega)
    show 2 * vl L i t + _ = _
    rw [ih, nthB_drop h (by rw [bitsOf_len]; omega), bitsOf_at _ _ _ (by omega), Nat.testBit_eq_decide_div_mod_eq]
    obtain ⟨d, hd⟩ : ∃ d, d = n - (t + 1) := ⟨_, rfl⟩
    rw [← hd, show n - 1 - t = d by omega, show n - t = d + 1 by omega, Nat.pow_succ, ← Nat.div_div_eq_div_mul]
    generalize c / 2 ^ d = y
    rcases Nat.mod_two_eq_zero_or_one y with h2 | h2
    · rw [h2]; simp; omega
    · rw [h2]; simp; omega
theorem vl_bits (L : List Bool) (i c n : Nat) (rest : List Bool) (h : L.drop i = bitsOf c n ++ rest) (hc : c < 2 ^ n) : vl L i n = c := by
  rw [vl_up L i c n rest h hc n (Nat.le_refl _)]; simp
theorem vl_lt (L : List Bool) (i : Nat) : ∀ t, vl L i t < 2 ^ t
  | 0 => by show 0 < 1; omega
  | t + 1 => by
    have := vl_lt L i t
    have h2 : (nthB L (i + t)).toNat ≤ 1 := by cases nthB L (i + t) <;> simp
    show 2 * vl L i t + _ < 2 ^ (t + 1)
    rw [Nat.pow_succ]; omega

def sOf (k j : Nat) : List Nat := (tbl k).getD j []
inductive Mi where
  | ch (c : Nat)
  | lat (c : Nat)
  | sh (c : Nat)
  | bytes (b : List Nat)
def wd (m : Nat) : Nat := if m = 4 then 4 else 5
def latTo (m c : Nat) : Option Nat :=
  if m = 0 then (if c = 28 then some 1 else if c = 29 then some 2 else if c = 30 then some 4 else none)
  else if m = 1 then (if c = 29 then some 2 else if c = 30 then some 4 else none)
  else if m = 2 then (if c = 28 then some 1 else if c = 29 then some 0 else if c = 30 then some 3 else none)
  else if m = 3 then (if c = 31 then some 0 else none)
  else if m = 4 then (if c = 14 then some 0 else none)
  else none
def shTo (m c : Nat) : Option Nat :=
  if m = 0 then (if c = 0 then some 3 else if c = 31 then some 5 else none)
  else if m = 1 then (if c = 0 then some 3 else if c = 31 then some 5 else if c = 28 then some 0 else none)
  else if m = 2 then (if c = 0 then some 3 else if c = 31 then some 5 else none)
  else if m = 4 then (if c = 0 then some 3 else if c = 15 then some 0 else none)
  else none
def okB (b : List Nat) : Prop := 0 < b.length ∧ b.length ≤ 2000 ∧ ∀ x, x ∈ b → x < 128
/-- The step leads from a state (latched mode, mode) to another. -/
def Nxt (la sh : Nat) : Mi → Nat × Nat → Prop
  | .ch c, s => sh < 5 ∧ sOf sh c ≠ [] ∧ s = (la, la)
  | .lat c, s => ∃ m, latTo sh c = some m ∧ s = (m, m)
  | .sh c, s => ∃ m, shTo sh c = some m ∧ s = (sh, m)
  | .bytes b, s => sh = 5 ∧ okB b ∧ s = (la, la)
def hdr (n : Nat) : List Bool := if n < 32 then bitsOf n 5 else bitsOf 0 5 ++ bitsOf (n - 31) 11
def en (sh : Nat) : Mi → List Bool
  | .ch c => bitsOf c (wd sh)
  | .lat c => bitsOf c (wd sh)
  | .sh c => bitsOf c (wd sh)
  | .bytes b => hdr b.length ++ b.flatMap (bitsOf · 8)
def tx (sh : Nat) : Mi → List Nat
  | .ch c => sOf sh c
  | .bytes b => b
  | _ => []
/-- Steps from a state to another, with their bits and their text. -/
inductive Runs : Nat × Nat → List Mi → List Bool → List Nat → Nat × Nat → Prop where
  | nil (s : Nat × Nat) : Runs s [] [] [] s
  | cons {la sh : Nat} {m : Mi} {s1 s2 : Nat × Nat} {ms : List Mi} {bs : List Bool} {ts : List Nat} (h : Nxt la sh m s1) (hr : Runs s1 ms bs ts s2) : Runs (la, sh) (m :: ms) (en sh m ++ bs) (tx sh m ++ ts) s2
theorem Runs.trans {s s1 s2 : Nat × Nat} {ms ms' : List Mi} {bs bs' : List Bool} {ts ts' : List Nat} (h : Runs s ms bs ts s1) (h' : Runs s1 ms' bs' ts' s2) : Runs s (ms ++ ms') (bs ++ bs') (ts ++ ts') s2 := by
  induction h with
  | nil s => exact h'
  | cons hn _ ih => rw [List.cons_append, List.append_assoc, List.append_assoc]; exact .cons hn (ih h')
theorem Runs.one {la sh : Nat} {m : Mi} {s1 : Nat × Nat} (h : Nxt la sh m s1) : Runs (la, sh) [m] (en sh m) (tx sh m) s1 := by
  have := Runs.cons h (.nil s1)
  simpa using this

theorem sOf_lt : ∀ k, k < 5 → ∀ c, sOf k c ≠ [] → c < tbLen k := by
  intro k hk c h
  by_cases hc : c < tbLen k
  · exact hc
  · exfalso
    apply h
    unfold sOf
    rw [List.getD_eq_getElem?_getD, List.getElem?_eq_none]
    · rfl
    · have : ∀ k, k < 5 → (tbl k).length = tbLen k := by decide +kernel
      rw [this k hk]; omega
theorem sOf_small : ∀ k, k < 5 → ∀ c, c < 32 → (sOf k c).length ≤ 2 ∧ (∀ x ∈ sOf k c, x < 128) := by decide +kernel
theorem tbLen_wd : ∀ k, k < 5 → tbLen k = 2 ^ wd k := by decide
theorem latTo_lt : ∀ k, k < 5 → ∀ c, c < 32 → ∀ m, latTo k c = some m → m < 5 := by
  intro k hk c hc m h
  have : ∀ k, k < 5 → ∀ c, c < 32 → (latTo k c).all (· < 5) = true := by decide +kernel
  have h2 := this k hk c hc
  rw [h] at h2; simpa using h2
/-- What stands behind the last step is too little for one more. -/
def Stop (sh : Nat) (tail : List Bool) : Prop :=
  tail = [] ∨ (sh < 5 ∧ tail.length < wd sh) ∨ (sh = 5 ∧ tail.length < 5) ∨ (sh = 5 ∧ 5 ≤ tail.length ∧ tail.length < 13 ∧ ∀ j, j < 5 → nthB tail j = true)
end Go.Proofs.YtiielblnmfeapaaGreatDoor
