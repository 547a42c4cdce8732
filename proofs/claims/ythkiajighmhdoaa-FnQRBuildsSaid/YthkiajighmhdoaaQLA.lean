/-
  A row of bits as a BitArray, up to 2^32 bits, walked. No condition beyond the bounds that each theorem states.
-/
import Derived.Test.YthkiajighmhdoaaBA
namespace Go.Proofs.Ythkiajighmhdoaa
open Go.RowKit Go.Qz
set_option linter.unusedVariables false

set_option maxRecDepth 100000 in
set_option maxHeartbeats 800000 in
theorem ba_setL (I : Int) (i : Nat) (hI : I = i) (p g n : Nat) (ws : List Nat) (w : World) (h : BA w p g ws n) (hi : i / 32 < ws.length) (hb : i < 4294967296) :
    Calls Try.prog 73 #[.pointer (some ⟨p, 0, none⟩), .int .i64 I] w fun e w' => e = .returned (.tuple #[]) ∧ w' = w.setCell ⟨g, i / 32, none⟩ (.int .u32 ((nth ws (i / 32) ||| 2 ^ (i % 32) : Nat) : Int)) := by
  obtain ⟨q, hq⟩ : ∃ q, q = i / 32 := ⟨_, rfl⟩
  obtain ⟨r, hr⟩ : ∃ r, r = i % 32 := ⟨_, rfl⟩
  rw [← hq] at hi ⊢
  rw [← hr]
  have h0 : 0 ≤ I := by omega
  have h1 : I < 4294967296 := by omega
  have e1 : I / 32 = (q : Int) := by omega
  have e2 : I % 32 = (r : Int) := by omega
  have hr32 : r < 32 := by omega
  have hw := h.word hi
  have hx := h.lt _ (nth_mem hi)
  have e3 := u32_pow r hr32
  have hp2 : 2 ^ r < 4294967296 := by
    have h1 : 2 ^ r ≤ 2 ^ 31 := Nat.pow_le_pow_right (by omega) (by omega)
    omega
  have e4 := u32_or _ _ hx hp2
  have hbits := h.bits
  have hfree := h.free q
  clear hq hr hI
  generalize 2 ^ r = P at *
  go_enter Try.func73, Try.ntmps73
  go_wp2_with fail
  go_end0
  exact ⟨rfl, rfl⟩

set_option maxRecDepth 100000 in
set_option maxHeartbeats 800000 in
theorem make_wordsL (I : Int) (n m : Nat) (hI : I = n) (hn : n < 4294967296) (hm : m = (n + 31) / 32) (w : World) :
    Calls Try.prog 104 #[.int .i64 I] w fun e w' => e = .returned (.slice (some ⟨w.heap.size, 0, none⟩) m m) ∧ w' = w.alloc (.cells (zeros m (.int .u32 0)) 179) := by
  have h0 : 0 ≤ I := by omega
  have h1 : I < 4294967296 := by omega
  have e1 : (I + 31) / 32 = (m : Int) := by omega
  have hmk := fun W => run_make1 (P := Try.prog) 175 179 (.int .u32 0) 4 Try.underlying175 Try.infoU32 rfl (by decide) m (by omega) .i64 .i64 m rfl W
  clear hI
  have HM := Lib.hid hm
  clear hm
  go_enter Try.func104, Try.ntmps104
  go_wp2_with fail
  go_ret
  exact ⟨rfl, rfl⟩

set_option maxRecDepth 100000 in
set_option maxHeartbeats 800000 in
theorem ba_newL (I : Int) (n : Nat) (hI : I = n) (hn : n < 4294967296) (w : World) :
    Calls Try.prog 72 #[.int .i64 I] w fun e w' => ∃ p g, e = .returned (.pointer (some ⟨p, 0, none⟩)) ∧ BA w' p g (List.replicate ((n + 31) / 32) 0) n ∧ Below w.heap.size w w' ∧ w.heap.size ≤ p ∧ w.heap.size ≤ g := by
  subst hI
  go_enter Try.func72, Try.ntmps72
  go_wp2_with fail
  refine (make_wordsL _ n _ rfl hn rfl _).mono ?_
  rintro e w' ⟨rfl, rfl⟩
  go_wp2_with fail
  go_ret
  exact ⟨_, _, rfl, BA.made w _ n, ((Below.refl _ _).alloc (Nat.le_refl _) _).alloc (by simp) _, Nat.le_succ _, Nat.le_refl _⟩

set_option maxRecDepth 100000 in
set_option maxHeartbeats 800000 in
theorem ba_arrayL (A : Option Addr) (n c : Nat) (z : Nat → Bool) (w : World) (hn : n < 4294967296) (h : Rd w A n (fun j => .bool (z j))) :
    Calls Try.prog 33 #[.slice A n c] w fun e w' => ∃ p g ws, e = .returned (.pointer (some ⟨p, 0, none⟩)) ∧ BA w' p g ws n ∧ ws.length = (n + 31) / 32 ∧ (∀ i, bit ws i = (decide (i < n) && z i)) ∧ Below w.heap.size w w' ∧ w.heap.size ≤ p ∧ w.heap.size ≤ g := by
  go_enter Try.func33, Try.ntmps33
  go_wp2_with fail
  refine (ba_newL _ n rfl hn _).mono ?_
  rintro e w1 ⟨p, g, rfl, hba, hbel, hp, hg⟩
  go_wp2_with fail
  go_loopw [11] (fun i wr => ∃ (k : Nat) (ws : List Nat), k ≤ n ∧ i = .int .i64 k ∧ BA wr p g ws n ∧ ws.length = (n + 31) / 32 ∧ (∀ i, bit ws i = (decide (i < k) && z i)) ∧ Below w.heap.size w wr) (fun i _ => n - (intOf i).toNat)
  case atStart => exact ⟨0, _, by omega, rfl, hba, by simp, fun i => by simp [bit_zeros], hbel⟩
  case round =>
    obtain ⟨k, ws, hk, rfl, hb, hl, hbit, hbl⟩ := hrel
    clear hba hbel
    by_cases hlt : k < n
    · obtain ⟨b, off, rfl, _, hc⟩ := (h.below hbl) (by omega)
      have hck := hc k hlt; dsimp only at hck
      have HL := Lib.hid hl
      have HB := Lib.hid hbit
      have HH := Lib.hid h
      clear hc hl hbit h
      cases hz : z k
      · rw [hz] at hck
        go_wp2_with fail
        go_roundw
        case rel => exact ⟨k + 1, ws, by omega, by go_num, hb, HL.out, fun i => by rw [HB.out i]; by_cases hik : i = k; (subst hik; simp [hz]); (congr 1; simp; omega), hbl⟩
        case measure => simp [intOf]; omega
      · rw [hz] at hck
        go_wp2_with fail
        refine (ba_setL _ k rfl p g n ws _ hb (by have := HL.out; omega) (by omega)).mono ?_
        rintro e w' ⟨rfl, rfl⟩
        have hq : k / 32 < ws.length := by have := HL.out; omega
        have hx := hb.lt _ (nth_mem hq)
        have h2p : 2 ^ (k % 32) < 2 ^ 32 := Nat.pow_lt_pow_right (by decide) (by omega)
        have hb2 := hb.set_ (k / 32) (nth ws (k / 32) ||| 2 ^ (k % 32)) (by have := Nat.or_lt_two_pow (n := 32) (show nth ws (k / 32) < 2 ^ 32 by omega) h2p; omega)
        have hbs := fun j => bit_set ws k j hq
        clear hb
        have hbl2 := hbl.setCell (p := ⟨g, k / 32, none⟩) hg (.int .u32 ((nth ws (k / 32) ||| 2 ^ (k % 32) : Nat) : Int))
        have hl2 : (ws.set (k / 32) (nth ws (k / 32) ||| 2 ^ (k % 32))).length = (n + 31) / 32 := by rw [List.length_set]; exact HL.out
        generalize (wr.setCell ⟨g, k / 32, none⟩ (.int .u32 ((nth ws (k / 32) ||| 2 ^ (k % 32) : Nat) : Int))) = w9 at *
        generalize ws.set (k / 32) (nth ws (k / 32) ||| 2 ^ (k % 32)) = ws2 at *
        have HL2 := Lib.hid hl2
        have HBS := Lib.hid hbs
        clear hl2 hbs h2p hx hq
        go_wp2_with fail
        go_roundw
        case rel => exact ⟨k + 1, ws2, by omega, by go_num, hb2, HL2.out, fun i => by rw [HBS.out i, HB.out i]; by_cases hik : i = k; (subst hik; simp [hz]); (simp [hik]; rw [Bool.eq_iff_iff]; simp; omega), hbl2⟩
        case measure => simp [intOf]; omega
    · obtain rfl : k = n := by omega
      have HB := Lib.hid hbit
      clear hbit
      go_wp2_with fail
      go_ret
      exact ⟨p, g, ws, rfl, hb, hl, HB.out, hbl, hp, hg⟩
end Go.Proofs.Ythkiajighmhdoaa
