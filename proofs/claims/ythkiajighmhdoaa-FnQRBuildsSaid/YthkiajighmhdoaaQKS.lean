/-
  BitArray.AppendBits with room, walked. No condition beyond the bounds that each theorem states.
-/
import Derived.Test.YthkiajighmhdoaaBM
import Derived.Test.YthkiajighmhdoaaBIR
import Derived.Test.YthkiajighmhdoaaPSH
import Derived.Test.YthkiajighmhdoaaCPM
import Derived.Outline
import Derived.Deep.RegionLaw
import Derived.BigRegion
namespace Go.Proofs.Ythkiajighmhdoaa
open Go.RowKit Go.Qz
set_option linter.unusedVariables false

theorem bit_app_zeros (ws : List Nat) (m i : Nat) : bit (ws ++ List.replicate m 0) i = bit ws i := by
  unfold bit
  congr 1
  unfold nth
  rw [List.getD_eq_getElem?_getD, List.getD_eq_getElem?_getD]
  by_cases h : i / 32 < ws.length
  · rw [List.getElem?_append_left h]
  · rw [List.getElem?_append_right (by omega), List.getElem?_replicate, List.getElem?_eq_none (by omega : ws.length ≤ i / 32)]
    split <;> rfl

/-- n bits as z says; the words are as many as these want. -/
def BitsZ (w : World) (p g n m : Nat) (z : Nat → Bool) : Prop := ∃ ws, BA w p g ws n ∧ ws.length = (m + 31) / 32 ∧ ∀ i, bit ws i = z i

def EnsPost (p g n m : Nat) (z : Nat → Bool) (w : World) (e : Ending) (w' : World) : Prop :=
  e = .returned (.tuple #[]) ∧ ∃ g', BitsZ w' p g' n m z ∧ Mod (· = p) w w' ∧ (g' = g ∨ w.heap.size ≤ g')

set_option maxRecDepth 100000 in
set_option maxHeartbeats 1600000 in
theorem ensureCap (p g n m M : Nat) (z : Nat → Bool) (hmM : m ≤ M) (hm : M < 100000) (w : World) (h : BitsZ w p g n M z) :
    Calls Try.prog 127 #[.pointer (some ⟨p, 0, none⟩), .int .i64 m] w (EnsPost p g n M z w) := by
  have H := Lib.hid h
  obtain ⟨ws, hb, hl, hz⟩ := h
  have hbits := hb.bits
  obtain ⟨L, hL⟩ : ∃ L, L = ws.length := ⟨_, rfl⟩
  rw [← hL] at hbits hl
  have hL0 : L < 1000000 := by omega
  have hgt1 : (m : Int) ≤ (L : Int) * 32 := by omega
  clear hz hb hL hl
  go_enter Try.func127, Try.ntmps127
  go_wp2_with fail
  go_end0
  exact ⟨rfl, g, H.out, Mod.refl _, .inl rfl⟩

/-- The bits behind: t of the k lowest of v, the highest first. -/
def zAdd (n k v t : Nat) (z : Nat → Bool) (i : Nat) : Bool := if i < n then z i else decide (i < n + t) && v.testBit (k - 1 - (i - n))
theorem zAdd_zero (n k v : Nat) (z : Nat → Bool) (hz : ∀ i, n ≤ i → z i = false) : ∀ i, z i = zAdd n k v 0 z i := by
  intro i
  unfold zAdd
  split
  · rfl
  · rw [hz i (by omega)]; simp; omega
theorem zAdd_succ (n k v t : Nat) (z : Nat → Bool) (i : Nat) : zAdd n k v (t + 1) z i = (zAdd n k v t z i || (decide (i = n + t) && v.testBit (k - 1 - t))) := by
  unfold zAdd
  by_cases h1 : i < n
  · rw [if_pos h1, if_pos h1]; simp; omega
  · rw [if_neg h1, if_neg h1]
    by_cases h2 : i = n + t
    · subst h2; simp [show n + t - n = t by omega]
    · simp [h2]
      rw [Bool.eq_iff_iff]; simp; omega
def AppPost (p g n k v M : Nat) (z : Nat → Bool) (w : World) (e : Ending) (w' : World) : Prop :=
  e = .returned .nilIface ∧ ∃ g', BitsZ w' p g' (n + k) M (zAdd n k v k z) ∧ Mod (fun x => x = p ∨ x = g) w w' ∧ (g' = g ∨ w.heap.size ≤ g')

theorem w64 {x y : Int} (h : IntKind.i64.wrap x = y) : wrap64 x = y := by rw [IntKind.wrap_i64] at h; unfold wrap64; exact h
theorem i64_pow (b : Nat) (h : b < 32) : IntKind.i64.wrap (2 ^ b) = ((2 ^ b : Nat) : Int) := by
  have h1 : 2 ^ b ≤ 2 ^ 31 := Nat.pow_le_pow_right (by omega) (by omega)
  rw [IntKind.wrap_i64]
  have h2 : ((2 ^ b : Nat) : Int) = (2 : Int) ^ b := by simp
  rw [← h2]
  generalize 2 ^ b = x at *
  omega

set_option maxRecDepth 100000 in
set_option maxHeartbeats 3200000 in
theorem appendCap (p g n k v M : Nat) (z : Nat → Bool) (hk : k ≤ 32) (hv : v < 4294967296) (hnM : n + k ≤ M) (hM : M < 100000) (hzn : ∀ i, n ≤ i → z i = false) (w : World) (h : BitsZ w p g n M z) :
    Calls Try.prog 123 #[.pointer (some ⟨p, 0, none⟩), .int .i64 v, .int .i64 k] w (AppPost p g n k v M z w) := by
  have hsz : w.cell? ⟨p, 1, none⟩ = some (.int .i64 n) := by
    obtain ⟨ws, hb, _⟩ := h
    exact hb.size
  have HE := Lib.hid (ensureCap p g n (n + k) M z hnM hM w h)
  have HZN := Lib.hid hzn
  have HG : Hid (p < w.heap.size ∧ g < w.heap.size) := Lib.hid (by
    obtain ⟨ws, hb, _⟩ := h
    exact ⟨hb.plt, hb.glt⟩)
  clear h hzn
  obtain ⟨m, hm⟩ : ∃ m, m = n + k := ⟨_, rfl⟩
  rw [← hm] at HE hnM
  have hm1 : (n : Int) + (k : Int) = (m : Int) := by omega
  have HM := Lib.hid hm
  clear hm
  go_enter Try.func123, Try.ntmps123
  go_wp2_with fail
  refine HE.out.mono ?_
  rintro e w1 ⟨rfl, g1, hbz, hm1', hg1⟩
  have HB0 : Hid (BitsZ w1 p g1 n M (zAdd n k v 0 z)) := Lib.hid (by
    obtain ⟨ws, hb, hl, hz⟩ := hbz
    exact ⟨ws, hb, hl, fun i => (hz i).trans (zAdd_zero n k v z HZN.out i)⟩)
  have HM0 : Hid (Mod (fun x => x = p ∨ x = g) w w1) := Lib.hid (hm1'.mono (fun i _ h => .inl h))
  have HG1 := Lib.hid hg1
  clear hbz hm1' hg1 hsz HE
  go_wp2_with fail
  go_loopw [7, 8] (fun a b wr => ∃ (t : Nat) (j : Int), t ≤ k ∧ j = (k : Int) - 1 - t ∧ a = .int .i64 ((n + t : Nat) : Int) ∧ b = .int .i64 j ∧ Hid (BitsZ wr p g1 n M (zAdd n k v t z)) ∧ Hid (Mod (fun x => x = p ∨ x = g) w wr)) (fun _ b _ => (intOf b + 1).toNat)
  case atStart => exact ⟨0, (k : Int) - 1, by omega, by omega, rfl, rfl, HB0, HM0⟩
  case round =>
    obtain ⟨t, j, ht, hj, rfl, rfl, HB, HMO⟩ := hrel
    clear HB0 HM0
    obtain ⟨s, hs⟩ : ∃ s, s = n + t := ⟨_, rfl⟩
    rw [← hs]
    have hsl : s ≤ m := by have := HM.out; omega
    by_cases hlt : t < k
    · obtain ⟨b, hb⟩ : ∃ b, b = k - 1 - t := ⟨_, rfl⟩
      obtain rfl : j = (b : Int) := by omega
      have hb32 : b < 32 := by omega
      have hj0 : (0 : Int) ≤ (b : Int) := by omega
      have hp := i64_pow b hb32
      have hpl : 2 ^ b < 4294967296 := by
        have h1 : 2 ^ b ≤ 2 ^ 31 := Nat.pow_le_pow_right (by omega) (by omega)
        omega
      have ha := i64_and v (2 ^ b) (by omega) (by omega)
      have ht1 := and_pow_ne v b
      have HSB := Lib.hid (And.intro hs (And.intro hb hj))
      obtain ⟨ws, hba, hwl, hz⟩ := HB.out
      have HZ := Lib.hid hz
      have HBA := Lib.hid hba
      have hsm : s / 32 < ws.length := by have := HM.out; omega
      obtain ⟨q, hq⟩ : ∃ q, q = s / 32 := ⟨_, rfl⟩
      obtain ⟨r, hr⟩ : ∃ r, r = s % 32 := ⟨_, rfl⟩
      have e1 : (s : Int) / 32 = (q : Int) := by omega
      have e2 : bits .and .i64 (s : Int) 31 = (r : Int) := by
        have := i64_and s 31 (by omega) (by omega)
        rw [show s &&& 31 = s % 32 from Nat.and_two_pow_sub_one_eq_mod s 5, ← hr] at this
        exact this
      have hr32 : r < 32 := by omega
      rw [← hq] at hsm
      have hw := hba.word hsm
      have hx := hba.lt _ (nth_mem hsm)
      have e3 := u32_pow r hr32
      have hp2 : 2 ^ r < 4294967296 := by
        have h1 : 2 ^ r ≤ 2 ^ 31 := Nat.pow_le_pow_right (by omega) (by omega)
        omega
      have e4 := u32_or _ _ hx hp2
      have hbits := hba.bits
      have hfree := hba.free q
      have HQR := Lib.hid (And.intro hq hr)
      have HWL := Lib.hid hwl
      obtain ⟨L, hL⟩ : ∃ L, L = ws.length := ⟨_, rfl⟩
      rw [← hL] at hbits hsm
      have hsm1 : (q : Int) < (L : Int) := by omega
      have hq0 : (0 : Int) ≤ (q : Int) := by omega
      have hqw : IntKind.i64.wrap (q : Int) = (q : Int) := by rw [IntKind.wrap_i64]; omega
      have HLL := Lib.hid hL
      obtain ⟨bt, hbt⟩ : ∃ bt, bt = v.testBit b := ⟨_, rfl⟩
      rw [← hbt] at ht1
      have hp64 : wrap64 (2 ^ b) = ((2 ^ b : Nat) : Int) := w64 hp
      obtain ⟨x, hx2⟩ : ∃ x, x = nth ws q := ⟨_, rfl⟩
      rw [← hx2] at hw hx e4
      obtain ⟨y, hy⟩ : ∃ y, y = x ||| 2 ^ r := ⟨_, rfl⟩
      rw [← hy] at e4
      have hyl : y < 4294967296 := by rw [hy]; exact Nat.or_lt_two_pow (n := 32) (by omega) (by omega)
      have HY := Lib.hid (And.intro hx2 hy)
      have HBT := Lib.hid hbt
      have hs100 : s < 100000 := by omega
      clear hbt hx2 hy hwl hq hr hba hz hs hb hj hL
      generalize 2 ^ b = P at *
      obtain ⟨R, hR⟩ : ∃ R, R = 2 ^ r := ⟨_, rfl⟩
      rw [← hR] at e3 hp2 e4
      have HR2 := Lib.hid hR
      clear hR
      generalize v &&& P = V at *
      cases bt with
      | true =>
        have HA9 := Lib.hid (HBA.out.set_ q y hyl)
        have HM9 := Lib.hid (HMO.out.setCell (p := ⟨g1, q, none⟩) (by rcases HG1.out with h | h; (left; right; exact h); (right; exact h)) (.int .u32 y))
        go_wp2_with fail
        go_region_law (fail)
        all_goals
          go_wp2_with fail
          go_roundw
          case rel =>
            refine ⟨t + 1, (b : Int) - 1, by omega, by have := HSB.out; omega, by have := HSB.out.1; rw [this]; go_num, rfl, Lib.hid ⟨ws.set q y, ?_, by rw [List.length_set]; exact HWL.out, fun i => ?_⟩, Lib.hid (HM9.out.drewN _)⟩
            · exact HA9.out.keep rfl rfl
            · have h1 := bit_set ws s i (by rw [← HQR.out.1, ← HLL.out]; exact hsm)
              rw [← HQR.out.1, ← HQR.out.2, ← HY.out.1, ← HY.out.2, HZ.out i] at h1
              rw [h1, zAdd_succ, ← HSB.out.1, ← HSB.out.2.1, ← HBT.out, Bool.and_true]
          case measure => simp [intOf]
      | false =>
        go_wp2_with fail
        go_roundw
        case rel =>
          refine ⟨t + 1, (b : Int) - 1, by omega, by have := HSB.out; omega, by have := HSB.out.1; rw [this]; go_num, rfl, Lib.hid ⟨ws, HBA.out, HWL.out, fun i => ?_⟩, HMO⟩
          rw [HZ.out i, zAdd_succ, ← HSB.out.2.1, ← HBT.out, Bool.and_false, Bool.or_false]
        case measure => simp [intOf]
    · obtain rfl : t = k := by omega
      obtain rfl : j = -1 := by omega
      have hsm : s = m := by have := HM.out; omega
      clear hs
      subst hsm
      obtain ⟨ws, hba, hwl, hz⟩ := HB.out
      have hfp := hba.freep 1
      have hsz := hba.size
      have HF : Hid (BitsZ (wr.setCell ⟨p, 1, none⟩ (.int .i64 s)) p g1 s M (zAdd n t v t z)) := Lib.hid ⟨ws, ⟨by
          have := hba.hp
          simp [World.setCell, Array.getElem?_modify, this], by rw [Below.heap_setCell _ _ _ _ (Ne.symm hba.ne)]; exact hba.hg, hba.ne, hba.lt⟩, hwl, hz⟩
      have HM9 := Lib.hid (HMO.out.setCell (p := ⟨p, 1, none⟩) (.inl (.inl rfl)) (.int .i64 s))
      clear hba hwl hz
      go_wp2_with fail
      go_ret
      refine ⟨rfl, g1, ?_, HM9.out, ?_⟩
      · rw [← HM.out]; exact HF.out
      · rcases HG1.out with h | h
        · exact .inl h
        · exact .inr h
end Go.Proofs.Ythkiajighmhdoaa
