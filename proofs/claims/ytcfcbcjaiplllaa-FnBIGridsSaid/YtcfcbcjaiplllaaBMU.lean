/-
  Plain: words that are turned round and moved along their rows, one behind the other.
-/
import Derived.Test.YtcfcbcjaiplllaaBMV
import Derived.Test.YtcfcbcjaiplllaaREV
namespace Go.Proofs.Ytcfcbcjaiplllaa
open Go.RowKit Go.Qz
set_option linter.unusedVariables false

def hf (s v : Nat) : Nat := rv v / 2 ^ (32 - s)
def up_ (s v : Nat) : Nat := rv v * 2 ^ s % 4294967296
theorem hf_lt (s v : Nat) : hf s v < 4294967296 := Nat.lt_of_le_of_lt (Nat.div_le_self _ _) (rv_lt v)
theorem up_lt (s v : Nat) : up_ s v < 4294967296 := Nat.mod_lt _ (by decide)
def fin_ (ws : List Nat) (s R q : Nat) : Nat := if (q + 1) % R = 0 then hf s (nth ws q) else hf s (nth ws q) ||| up_ s (nth ws (q + 1))
/-- The first n words are turned round; what the last of them gets of its neighbour is still to come. -/
def Shf (ws ws' : List Nat) (s R n : Nat) : Prop :=
  ws'.length = ws.length ∧ ∀ q, q < ws.length → nth ws' q = if q + 1 < n then fin_ ws s R q else if q + 1 = n then hf s (nth ws q) else nth ws q
theorem Shf.zero (ws : List Nat) (s R : Nat) : Shf ws ws s R 0 := ⟨rfl, fun q hq => by rw [if_neg (by omega), if_neg (by omega)]⟩
theorem Shf.old {ws ws' : List Nat} {s R n : Nat} (h : Shf ws ws' s R n) (hn : n < ws.length) : nth ws' n = nth ws n := by
  rw [h.2 n hn, if_neg (by omega), if_neg (by omega)]
theorem Shf.row {ws ws' : List Nat} {s R n : Nat} (h : Shf ws ws' s R n) (hn : n < ws.length) (hR : n % R = 0) : Shf ws (ws'.set n (hf s (nth ws n))) s R (n + 1) := by
  refine ⟨by rw [List.length_set]; exact h.1, fun q hq => ?_⟩
  rw [nth_set (by rw [h.1]; exact hn), h.2 q hq]
  by_cases e1 : q = n
  · subst e1
    rw [if_pos rfl, if_neg (by omega), if_pos rfl]
  · rw [if_neg e1]
    by_cases e2 : q + 1 < n
    · rw [if_pos e2, if_pos (by omega)]
    · rw [if_neg e2]
      by_cases e3 : q + 1 = n
      · rw [if_pos e3, if_pos (by omega)]
        unfold fin_
        rw [if_pos (by rw [e3]; exact hR)]
      · rw [if_neg e3, if_neg (by omega), if_neg (by omega)]
theorem Shf.half {ws ws' : List Nat} {s R n : Nat} (h : Shf ws ws' s R (n + 1)) (hn : n < ws.length) : nth ws' n = hf s (nth ws n) := by
  rw [h.2 n hn, if_neg (by omega), if_pos rfl]
theorem Shf.col {ws ws' : List Nat} {s R n : Nat} (h : Shf ws ws' s R (n + 1)) (hn : n + 1 < ws.length) (hR : (n + 1) % R ≠ 0) :
    Shf ws ((ws'.set n (nth ws' n ||| up_ s (nth ws (n + 1)))).set (n + 1) (hf s (nth ws (n + 1)))) s R (n + 1 + 1) := by
  refine ⟨by rw [List.length_set, List.length_set]; exact h.1, fun q hq => ?_⟩
  rw [nth_set (by rw [List.length_set, h.1]; exact hn), nth_set (by rw [h.1]; omega), h.half (by omega), h.2 q hq]
  by_cases e1 : q = n + 1
  · subst e1
    rw [if_pos rfl, if_neg (by omega), if_pos rfl]
  · rw [if_neg e1]
    by_cases e2 : q = n
    · subst e2
      rw [if_pos rfl, if_pos (by omega)]
      unfold fin_
      rw [if_neg hR]
    · rw [if_neg e2]
      by_cases e3 : q + 1 < n + 1
      · rw [if_pos e3, if_pos (by omega)]
      · rw [if_neg e3, if_neg (by omega), if_neg (by omega), if_neg (by omega)]
theorem Shf.all {ws ws' : List Nat} {s R H q : Nat} (h : Shf ws ws' s R (R * H)) (hl : ws.length = R * H) (hq : q < ws.length) : nth ws' q = fin_ ws s R q := by
  rw [h.2 q hq]
  by_cases e1 : q + 1 < R * H
  · rw [if_pos e1]
  · rw [if_neg e1, if_pos (by omega)]
    unfold fin_
    rw [if_pos (by rw [show q + 1 = R * H from by omega]; exact Nat.mul_mod_right _ _)]
theorem hf_bit (s v b : Nat) (hs : s < 32) (hs0 : 0 < s) (hb : b < 32) : (hf s v).testBit b = if b < s then v.testBit (s - 1 - b) else false := by
  unfold hf
  rw [Nat.testBit_div_two_pow]
  split
  · next h =>
    rw [rv_bit _ _ (by omega)]
    congr 1; omega
  · next h => exact bit_hi (rv_lt v) (by omega)
theorem up_bit (s v b : Nat) (hb : b < 32) : (up_ s v).testBit b = if s ≤ b then v.testBit (31 + s - b) else false := by
  unfold up_
  rw [show (4294967296 : Nat) = 2 ^ 32 from rfl, Nat.testBit_mod_two_pow, Nat.testBit_mul_two_pow]
  split
  · next h =>
    have e : 31 - (b - s) = 31 + s - b := by omega
    rw [rv_bit _ _ (by omega), e]
    simp [h, hb]
  · next h => simp [h]
theorem mb_half {ws ws1 ws2 : List Nat} {W H : Nat} (hW : W % 32 ≠ 0) (hl : ws.length = (W + 31) / 32 * H) (hl1 : ws1.length = ws.length) (h1 : ∀ q, q < ws.length → nth ws1 q = nth ws (ws.length - 1 - q)) (h2 : Shf ws1 ws2 (W % 32) ((W + 31) / 32) ((W + 31) / 32 * H)) {x y : Nat} (hx : x < W) (hy : y < H) :
    mb ws2 W x y = mb ws W (W - 1 - x) (H - 1 - y) := by
  have hat := at_lt hx hy
  unfold mb
  rw [h2.all (by rw [hl1, hl]) (by rw [hl1, hl]; exact hat)]
  obtain ⟨R, hR⟩ : ∃ R, R = (W + 31) / 32 := ⟨_, rfl⟩
  obtain ⟨s, hs⟩ : ∃ s, s = W % 32 := ⟨_, rfl⟩
  have hWs : W = 32 * (R - 1) + s := by omega
  have hRp : 0 < R := by omega
  rw [← hR] at hat hl ⊢
  rw [← hs]
  have hj : x / 32 < R := by omega
  have hb : x % 32 < 32 := by omega
  have hsp : 0 < s := by omega
  have hsl : s < 32 := by omega
  -- the mirrored word
  have hmir : ∀ j, j < R → nth ws1 (y * R + j) = nth ws ((H - 1 - y) * R + (R - 1 - j)) := fun j hj => by
    have e1 : (H - 1 - y) * R + y * R + R = R * H := by
      rw [← Nat.add_mul, show H - 1 - y + y = H - 1 by omega, ← Nat.succ_mul, show (H - 1).succ = H by omega, Nat.mul_comm]
    have e2 : y * R + j < ws.length := by rw [hl]; omega
    rw [h1 _ e2]
    congr 1
    rw [hl]
    omega
  have hrow : (y * R + x / 32 + 1) % R = 0 ↔ x / 32 = R - 1 := by
    rw [Nat.add_assoc, Nat.add_comm, Nat.add_mul_mod_self_right]
    constructor
    · intro h
      rcases Nat.lt_or_ge (x / 32 + 1) R with h3 | h3
      · rw [Nat.mod_eq_of_lt h3] at h; omega
      · omega
    · intro h
      rw [h, show R - 1 + 1 = R by omega, Nat.mod_self]
  have hval : (W - 1 - x) / 32 = if x % 32 < s then R - 1 - x / 32 else R - 2 - x / 32 := by
    split <;> omega
  have hbit : (W - 1 - x) % 32 = if x % 32 < s then s - 1 - x % 32 else 31 + s - x % 32 := by
    split <;> omega
  unfold fin_
  by_cases hlast : x / 32 = R - 1
  · rw [if_pos (hrow.2 hlast), hmir _ hj, hf_bit _ _ _ hsl hsp hb, hval, hbit]
    have : x % 32 < s := by omega
    rw [if_pos this, if_pos this, if_pos this]
  · rw [if_neg (fun h => hlast (hrow.1 h)), hmir _ hj, Nat.add_assoc, hmir _ (by omega), Nat.testBit_or, hf_bit _ _ _ hsl hsp hb, up_bit _ _ _ hb, hval, hbit]
    by_cases hbs : x % 32 < s
    · rw [if_pos hbs, if_pos hbs, if_pos hbs, if_neg (by omega), Bool.or_false]
    · rw [if_neg hbs, if_neg hbs, if_neg hbs, if_pos (by omega), Bool.false_or]
      congr 3 <;> omega
end Go.Proofs.Ytcfcbcjaiplllaa
