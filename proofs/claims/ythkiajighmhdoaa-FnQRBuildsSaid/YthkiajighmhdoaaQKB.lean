/-
  Plain facts on the codes of versions and formats: they are far apart. No program in sight.
-/
import Derived.Test.YthkiajighmhdoaaPCP
namespace Go.Qz.QB
open Go.Qz.PC
set_option linter.unusedVariables false

/-- One step of a division of bits: at place i. -/
def rstep (g len i x : Nat) : Nat := if x / 2 ^ i % 2 = 1 then x ^^^ (g * 2 ^ (i + 1 - len)) else x
/-- The rest, behind so many steps from place 17 on. -/
def rrest (g len : Nat) : Nat → Nat → Nat
  | 0, x => x
  | k + 1, x => rstep g len (17 - k) (rrest g len k x)
/-- The 18 bits that say a version. -/
def vb (v : Nat) : Nat := v * 4096 ||| rrest 7973 13 6 (v * 4096)
/-- The 15 bits that say a level and a mask, together. -/
def fb (d : Nat) : Nat := (d * 1024 ||| rrest 1335 11 8 (d * 1024)) ^^^ 21522
theorem vb_far : ∀ u v : Fin 34, u ≠ v → 8 ≤ pc 24 (vb (u.val + 7) ^^^ vb (v.val + 7)) := by decide +kernel
theorem vb_lt : ∀ v : Fin 34, vb (v.val + 7) < 262144 ∧ rrest 7973 13 6 ((v.val + 7) * 4096) < 4096 := by decide +kernel
theorem fb_far : ∀ u v : Fin 32, u ≠ v → 7 ≤ pc 24 (fb u.val ^^^ fb v.val) := by decide +kernel
theorem fb_lt : ∀ v : Fin 32, fb v.val < 32768 ∧ rrest 1335 11 8 (v.val * 1024) < 1024 := by decide +kernel
theorem rstep_lt {g len i x : Nat} (h : g * 2 ^ (i + 1 - len) < 262144) (hx : x < 262144) : rstep g len i x < 262144 := by
  unfold rstep
  split
  · exact Nat.xor_lt_two_pow (n := 18) hx h
  · exact hx
/-- One more bit is wrong. -/
theorem pc_flip (n x c i : Nat) : pc n ((x ^^^ 2 ^ i) ^^^ c) ≤ pc n (x ^^^ c) + 1 := by
  have e : (x ^^^ 2 ^ i) ^^^ c = (x ^^^ c) ^^^ 2 ^ i := by rw [Nat.xor_assoc, Nat.xor_comm (2 ^ i), ← Nat.xor_assoc]
  rw [e]
  have := pc_xor_le n (x ^^^ c) (2 ^ i)
  have := pc_pow n i
  omega
theorem pc_self (n x : Nat) : pc n (x ^^^ x) = 0 := by rw [Nat.xor_self, pc_zero]
theorem far {n x c c' d : Nat} (h : pc n (x ^^^ c) ≤ 3) (hd : d ≤ pc n (c ^^^ c')) : d ≤ pc n (x ^^^ c') + 3 := by
  have h1 := pc_tri n c x c'
  have e : c ^^^ x = x ^^^ c := Nat.xor_comm _ _
  rw [e] at h1
  omega
end Go.Qz.QB
