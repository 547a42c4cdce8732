/-
  Plain: what Flip, Unset, FlipAll, Clear make of the modules of a matrix.
-/
import Derived.Test.YtcfcbcjaiplllaaBMF
namespace Go.Proofs.Ytcfcbcjaiplllaa
open Go.RowKit Go.Qz
set_option linter.unusedVariables false

theorem mb_put (ws : List Nat) (W H x y i j v : Nat) (hlen : ws.length = (W + 31) / 32 * H) (hi : i < W) (hj : j < H) (hx : x < W) :
    mb (ws.set (j * ((W + 31) / 32) + i / 32) v) W x y = if y = j ∧ x / 32 = i / 32 then v.testBit (x % 32) else mb ws W x y := by
  unfold mb
  rw [nth_set (by rw [hlen]; exact at_lt hi hj)]
  by_cases h : y * ((W + 31) / 32) + x / 32 = j * ((W + 31) / 32) + i / 32
  · obtain ⟨h1, h2⟩ := at_inj hx hi h
    rw [if_pos h, if_pos ⟨h1, h2⟩]
  · rw [if_neg h, if_neg]
    rintro ⟨rfl, h2⟩
    exact h (by rw [h2])
theorem testBit_flip (x r i : Nat) (hx : x < 4294967296) (hr : r < 32) (hi : i < 32) : (x ^^^ 2 ^ r).testBit i = if i = r then !x.testBit i else x.testBit i := by
  rw [Nat.testBit_xor, Nat.testBit_two_pow]
  by_cases h : r = i
  · subst h; simp
  · rw [if_neg (fun e => h e.symm)]; simp [h]
theorem testBit_full (i : Nat) (hi : i < 32) : (4294967295 : Nat).testBit i = true := by
  rw [show (4294967295 : Nat) = 2 ^ 32 - 1 from rfl, Nat.testBit_two_pow_sub_one]
  simp [hi]
theorem testBit_unset (x r i : Nat) (hi : i < 32) : (x &&& (4294967295 ^^^ 2 ^ r)).testBit i = if i = r then false else x.testBit i := by
  rw [Nat.testBit_and, Nat.testBit_xor, Nat.testBit_two_pow, testBit_full i hi]
  by_cases h : r = i
  · subst h; simp
  · rw [if_neg (fun e => h e.symm)]; simp [h]
theorem mb_flip (ws : List Nat) (W H x y i j : Nat) (hlen : ws.length = (W + 31) / 32 * H) (hlt : ∀ z ∈ ws, z < 4294967296) (hi : i < W) (hj : j < H) (hx : x < W) :
    mb (ws.set (j * ((W + 31) / 32) + i / 32) (nth ws (j * ((W + 31) / 32) + i / 32) ^^^ 2 ^ (i % 32))) W x y = if x = i ∧ y = j then !mb ws W x y else mb ws W x y := by
  rw [mb_put ws W H x y i j _ hlen hi hj hx]
  have hat : nth ws (j * ((W + 31) / 32) + i / 32) < 4294967296 := hlt _ (nth_mem (by rw [hlen]; exact at_lt hi hj))
  by_cases h : y = j ∧ x / 32 = i / 32
  · obtain ⟨rfl, h2⟩ := h
    rw [if_pos ⟨rfl, h2⟩, testBit_flip _ _ _ hat (by omega) (by omega)]
    unfold mb
    rw [h2]
    by_cases e : x = i
    · subst e; simp
    · rw [if_neg (by omega), if_neg (fun h => e h.1)]
  · rw [if_neg h, if_neg]
    rintro ⟨rfl, rfl⟩
    exact h ⟨rfl, rfl⟩
theorem mb_unset (ws : List Nat) (W H x y i j : Nat) (hlen : ws.length = (W + 31) / 32 * H) (hi : i < W) (hj : j < H) (hx : x < W) :
    mb (ws.set (j * ((W + 31) / 32) + i / 32) (nth ws (j * ((W + 31) / 32) + i / 32) &&& (4294967295 ^^^ 2 ^ (i % 32)))) W x y = if x = i ∧ y = j then false else mb ws W x y := by
  rw [mb_put ws W H x y i j _ hlen hi hj hx]
  by_cases h : y = j ∧ x / 32 = i / 32
  · obtain ⟨rfl, h2⟩ := h
    rw [if_pos ⟨rfl, h2⟩, testBit_unset _ _ _ (by omega)]
    unfold mb
    rw [h2]
    by_cases e : x = i
    · subst e; simp
    · rw [if_neg (by omega), if_neg (fun h => e h.1)]
  · rw [if_neg h, if_neg]
    rintro ⟨rfl, rfl⟩
    exact h ⟨rfl, rfl⟩
theorem mb_map (G : Nat → Nat) (ws : List Nat) (W H x y : Nat) (hlen : ws.length = (W + 31) / 32 * H) (hx : x < W) (hy : y < H) :
    mb (mapTo G ws ws.length) W x y = (G (nth ws (y * ((W + 31) / 32) + x / 32))).testBit (x % 32) := by
  have := at_lt hx hy
  unfold mb
  rw [mapTo_at _ _ _ _ (by omega), if_pos (by omega)]
theorem mb_clear (ws : List Nat) (W H x y : Nat) (hlen : ws.length = (W + 31) / 32 * H) (hx : x < W) (hy : y < H) :
    mb (mapTo (fun _ => 0) ws ws.length) W x y = false := by
  rw [mb_map _ ws W H x y hlen hx hy]; simp
theorem mb_flipAll (ws : List Nat) (W H x y : Nat) (hlen : ws.length = (W + 31) / 32 * H) (hx : x < W) (hy : y < H) :
    mb (mapTo (fun x => 4294967295 ^^^ x) ws ws.length) W x y = !mb ws W x y := by
  rw [mb_map _ ws W H x y hlen hx hy, Nat.testBit_xor, testBit_full _ (by omega)]
  unfold mb
  simp
end Go.Proofs.Ytcfcbcjaiplllaa
