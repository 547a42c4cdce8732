/-
  AZUpper and the statement FnAZTurns, walked. No condition.
-/
import Derived.Test.YtpgkbhlgechpmaaAZU
import Derived.Test.YtpgkbhlgechpmaaARR
namespace Go.Proofs.Ytpgkbhlgechpmaa
open Go.RowKit Go.Qz Go.Qz.AZ
set_option linter.unusedVariables false

/-- What AZUpper says, as far as it matters here. -/
def UpPost (r : Nat) (w : World) (e : Ending) (w' : World) : Prop := Below w.heap.size w w' ∧ ∃ (u : Int) (f : Bool), e = .returned (.tuple #[.int .i64 u, .bool f]) ∧ (r = 4 → f = false)

set_option maxRecDepth 100000 in
set_option maxHeartbeats 1600000 in
theorem azUpper (s : Nat → Nat) (len : Nat) (hlen : len = 10 ∨ len = 14) (hs : ∀ i, i < 4 → s i < 2 ^ len) (A : Option Addr) (c : Nat) (w : World) (h : Rd w A 4 (fun j => .int .i64 (s j : Nat))) :
    Calls Try.prog 19 #[.slice A 4 c, .int .i64 len] w (UpPost (rot (tk len (s 0)) (tk len (s 1)) (tk len (s 2)) (tk len (s 3))) w) := by
  have ht : ∀ i, i < 4 → tk len (s i) < 8 := fun i hi => tk_lt hlen (hs i hi)
  have HW := Lib.hid (fun up hup W hW => azWrong s len hlen hs up hup A c W hW)
  have HL := Lib.hid (fun h4 up hup => rot_wrong (ht 0 (by omega)) (ht 1 (by omega)) (ht 2 (by omega)) (ht 3 (by omega)) h4 up hup)
  generalize rot (tk len (s 0)) (tk len (s 1)) (tk len (s 2)) (tk len (s 3)) = r at *
  obtain ⟨wc, hwc⟩ : ∃ wc : Nat → Nat, wc = fun up => wrongC (tk len (s 0)) (tk len (s 1)) (tk len (s 2)) (tk len (s 3)) up 4 := ⟨_, rfl⟩
  have HW2 : Hid (∀ up : Nat, up < 4 → ∀ W, Rd W A 4 (fun j => .int .i64 (s j : Nat)) → Calls Try.prog 35 #[.slice A 4 c, .int .i64 len, .int .i64 up] W fun e w' => e = .returned (.int .i64 (wc up : Nat)) ∧ Below W.heap.size W w') := Lib.hid (by rw [hwc]; exact HW.out)
  have HL2 : Hid (r = 4 → ∀ up, up < 4 → 2 < wc up) := Lib.hid (by rw [hwc]; exact HL.out)
  have HR := Lib.hid h
  clear hwc HW HL h ht hs hlen
  go_enter Try.func19, Try.ntmps19
  go_wp2_with fail
  go_loopw [6] (fun i wr => ∃ k : Nat, k ≤ 4 ∧ i = .int .i64 k ∧ Below w.heap.size w wr) (fun i _ => 4 - (intOf i).toNat)
  case atStart => exact ⟨0, by omega, rfl, Below.refl _ _⟩
  case round =>
    obtain ⟨k, hk, rfl, hbel⟩ := hrel
    by_cases hlt : k < 4
    · have HC := Lib.hid (HW2.out k hlt wr (HR.out.below hbel))
      have HBEL := Lib.hid hbel
      have hk4 : (k : Int) < 4 := by omega
      have HLk : Hid (r = 4 → 2 < wc k) := Lib.hid (fun h => HL2.out h k hlt)
      generalize wc k = x at *
      clear hbel
      by_cases hx : x ≤ 2
      · have hx1 : (x : Int) ≤ 2 := by omega
        go_wp2_with fail
        refine HC.out.mono ?_
        rintro e w1 ⟨rfl, hb⟩
        have HB := Lib.hid (HBEL.out.trans (hb.mono HBEL.out.size))
        clear hb
        go_wp2_with fail
        go_ret2
        exact ⟨HB.out, _, _, rfl, fun h => by have := HLk.out h; omega⟩
      · have hx1 : decide ((x : Int) ≤ 2) = false := by simp; omega
        have hx2 : (2 : Int) < (x : Int) := by omega
        go_wp2_with fail
        refine HC.out.mono ?_
        rintro e w1 ⟨rfl, hb⟩
        have HB := Lib.hid (HBEL.out.trans (hb.mono HBEL.out.size))
        clear hb
        go_wp2_with fail
        go_roundw
        case rel => exact ⟨k + 1, by omega, by go_num, HB.out⟩
        case measure => simp [intOf]; omega
    · obtain rfl : k = 4 := by omega
      go_wp2_with fail
      go_ret2
      exact ⟨hbel, _, _, rfl, fun _ => rfl⟩

/-- A list that is made from the front. -/
def upTo (n : Nat) (g : Nat → Nat) (i : Nat) : List Nat := (List.range n).map fun j => if j < i then g j else 0
theorem upTo_length (n : Nat) (g : Nat → Nat) (i : Nat) : (upTo n g i).length = n := by simp [upTo]
theorem upTo_nth (n : Nat) (g : Nat → Nat) (i j : Nat) (hj : j < n) : nth (upTo n g i) j = if j < i then g j else 0 := nth_map_range _ _ _ hj
theorem upTo_zero (n : Nat) (g : Nat → Nat) : upTo n g 0 = List.replicate n 0 := by
  apply List.ext_getElem?
  intro i
  by_cases hl : i < n
  · simp [upTo, hl]
  · rw [List.getElem?_eq_none (by simpa [upTo] using hl), List.getElem?_eq_none (by simpa using hl)]
theorem upTo_set (n : Nat) (g : Nat → Nat) (i : Nat) : (upTo n g i).set i (g i) = upTo n g (i + 1) := by
  apply List.ext_getElem?
  intro j
  rw [List.getElem?_set]
  by_cases h : j = i
  · subst h
    by_cases hl : j < n <;> simp [upTo, hl]
  · rw [if_neg (fun e => h e.symm)]
    by_cases hl : j < n
    · simp only [upTo, List.getElem?_map, List.getElem?_range hl, Option.map_some]
      by_cases hk : j < i
      · simp [hk, show j < i + 1 by omega]
      · simp [hk, show ¬ j < i + 1 by omega]
    · rw [List.getElem?_eq_none (by simpa [upTo] using hl), List.getElem?_eq_none (by simpa [upTo] using hl)]
theorem upTo_rd {w : World} {b n i : Nat} {g : Nat → Nat} (h : IA w 3 b (upTo n g i)) (hi : n ≤ i) : Rd w (some ⟨b, 0, none⟩) n (fun j => .int .i64 (g j : Nat)) := by
  have h2 := h.rd
  rw [upTo_length] at h2
  exact h2.congr fun j hj => by rw [upTo_nth _ _ _ _ hj, if_pos (by omega)]
/-- The list told k places later, so far. -/
def shOf (K : Nat) (s : Nat → Nat) (i : Nat) : List Nat := (List.range 4).map fun j => if (j + 4 - K) % 4 < i then s ((j + 4 - K) % 4) else 0
theorem shOf_length (K : Nat) (s : Nat → Nat) (i : Nat) : (shOf K s i).length = 4 := by simp [shOf]
theorem shOf_nth (K : Nat) (s : Nat → Nat) (i j : Nat) (hj : j < 4) : nth (shOf K s i) j = if (j + 4 - K) % 4 < i then s ((j + 4 - K) % 4) else 0 := nth_map_range _ _ _ hj
theorem shOf_zero (K : Nat) (s : Nat → Nat) : shOf K s 0 = List.replicate 4 0 := by
  apply List.ext_getElem (by simp [shOf])
  intro j h1 h2
  have hj : j < 4 := by rw [List.length_replicate] at h2; exact h2
  rw [← nth_eq h1, ← nth_eq h2, shOf_nth _ _ _ _ hj, if_neg (by omega), nth_replicate, if_pos hj]
theorem shOf_set (K : Nat) (hK : K < 4) (s : Nat → Nat) (i : Nat) (hi : i < 4) : (shOf K s i).set ((i + K) % 4) (s i) = shOf K s (i + 1) := by
  apply List.ext_getElem (by simp [shOf])
  intro j h1 h2
  have hj : j < 4 := by simpa [shOf] using h2
  rw [← nth_eq h1, ← nth_eq h2, nth_set (by rw [shOf_length]; omega), shOf_nth _ _ _ _ hj, shOf_nth _ _ _ _ hj]
  by_cases e : j = (i + K) % 4
  · have e2 : (j + 4 - K) % 4 = i := by omega
    rw [if_pos e, e2, if_pos (by omega)]
  · have e2 : (j + 4 - K) % 4 ≠ i := by omega
    rw [if_neg e]
    by_cases h3 : (j + 4 - K) % 4 < i
    · rw [if_pos h3, if_pos (by omega)]
    · rw [if_neg h3, if_neg (by omega)]
theorem shOf_rd {w : World} {b K : Nat} {s : Nat → Nat} (h : IA w 3 b (shOf K s 4)) : Rd w (some ⟨b, 0, none⟩) 4 (fun j => .int .i64 (s ((j + 4 - K) % 4) : Nat)) := by
  have h2 := h.rd
  rw [shOf_length] at h2
  exact h2.congr fun j hj => by rw [shOf_nth _ _ _ _ hj, if_pos (by omega)]

theorem i64_andp (x L : Nat) (hx : x < 65536) (hL : L ≤ 14) : bits .and .i64 (x : Int) ((2 ^ L - 1 : Nat) : Int) = ((x % 2 ^ L : Nat) : Int) := by
  have h1 : 2 ^ L ≤ 2 ^ 14 := Nat.pow_le_pow_right (by omega) hL
  rw [i64_and x (2 ^ L - 1) (by omega) (by omega), Nat.and_two_pow_sub_one_eq_mod]

set_option maxRecDepth 100000 in
set_option maxHeartbeats 6400000 in
theorem fnAZTurns (w : World) (z0 : Int) (hz0 : (Lit.int .u16 z0).wf = true) (z1 : Int) (hz1 : (Lit.int .u16 z1).wf = true) (z2 : Int) (hz2 : (Lit.int .u16 z2).wf = true) (z3 : Int) (hz3 : (Lit.int .u16 z3).wf = true) (b : Bool) (y : Int) (hy : (Lit.int .u8 y).wf = true) :
    Calls Try.prog 5 #[.agg #[.int .u16 z0, .int .u16 z1, .int .u16 z2, .int .u16 z3], .bool b, .int .u8 y] w fun e w' => e = .returned (.bool true) ∧ Below w.heap.size w w' := by
  obtain ⟨x0, rfl⟩ : ∃ x : Nat, z0 = x := ⟨z0.toNat, by have := bd_u16 hz0; omega⟩
  obtain ⟨x1, rfl⟩ : ∃ x : Nat, z1 = x := ⟨z1.toNat, by have := bd_u16 hz1; omega⟩
  obtain ⟨x2, rfl⟩ : ∃ x : Nat, z2 = x := ⟨z2.toNat, by have := bd_u16 hz2; omega⟩
  obtain ⟨x3, rfl⟩ : ∃ x : Nat, z3 = x := ⟨z3.toNat, by have := bd_u16 hz3; omega⟩
  obtain ⟨y, rfl⟩ : ∃ x : Nat, y = x := ⟨y.toNat, by have := bd_u8 hy; omega⟩
  have b0 : x0 < 65536 := by have := bd_u16 hz0; omega
  have b1 : x1 < 65536 := by have := bd_u16 hz1; omega
  have b2 : x2 < 65536 := by have := bd_u16 hz2; omega
  have b3 : x3 < 65536 := by have := bd_u16 hz3; omega
  have hy1 : y < 256 := by have := bd_u8 hy; omega
  clear hz0 hz1 hz2 hz3 hy
  obtain ⟨K, hK⟩ : ∃ K, K = y % 4 := ⟨_, rfl⟩
  have eK : (y : Int) % 4 = (K : Int) := by omega
  have hK4 : K < 4 := by omega
  clear hK
  have HL := Lib.hid (fun W => azLength b _ rfl W)
  have hmk := fun W => run_make1 (P := Try.prog) 28 3 (.int .i64 0) 8 Try.underlying28 Try.infoInt rfl (by decide) 4 (by omega) .i64 .i64 4 rfl W
  cases b with
  | true =>
    go_enter Try.func5, Try.ntmps5
    go_wp2_with fail
    refine (HL.out _).mono ?_
    rintro e w1 ⟨rfl, rfl⟩
    go_wp2_with fail
    go_region
    all_goals go_wp2_with fail
    all_goals
      have hA : Arr (((w.alloc (.cells #[.int .u16 x0, .int .u16 x1, .int .u16 x2, .int .u16 x3] 34)).alloc (.cells (zeros 4 (.int .i64 0)) 3)).alloc (.cells (zeros 4 (.int .i64 0)) 3)).drew 34 w.heap.size [.int .u16 x0, .int .u16 x1, .int .u16 x2, .int .u16 x3] := by
        show Arr (((w.alloc (.cells #[.int .u16 x0, .int .u16 x1, .int .u16 x2, .int .u16 x3] 34)).alloc (.cells (zeros 4 (.int .i64 0)) 3)).alloc (.cells (zeros 4 (.int .i64 0)) 3)) 34 w.heap.size _
        unfold Arr
        rw [Below.heap_alloc _ _ _ (by simp; omega), Below.heap_alloc _ _ _ (by simp), heap_alloc_new]
      have hI1 : IA (((w.alloc (.cells #[.int .u16 x0, .int .u16 x1, .int .u16 x2, .int .u16 x3] 34)).alloc (.cells (zeros 4 (.int .i64 0)) 3)).alloc (.cells (zeros 4 (.int .i64 0)) 3)).drew 3 (w.heap.size + 1) (List.replicate 4 0) := by
        have := (IA.zeros (w.alloc (.cells #[.int .u16 x0, .int .u16 x1, .int .u16 x2, .int .u16 x3] 34)) 3 4).mod (S := fun _ => False) ((Mod.refl _).alloc (.cells (zeros 4 (.int .i64 0)) 3)) (fun h => h)
        simp only [World.size_alloc] at this
        exact this.mod (S := fun _ => False) (Mod.refl _).drew (fun h => h)
      have hI2 : IA (((w.alloc (.cells #[.int .u16 x0, .int .u16 x1, .int .u16 x2, .int .u16 x3] 34)).alloc (.cells (zeros 4 (.int .i64 0)) 3)).alloc (.cells (zeros 4 (.int .i64 0)) 3)).drew 3 (w.heap.size + 1 + 1) (List.replicate 4 0) := by
        have := IA.zeros ((w.alloc (.cells #[.int .u16 x0, .int .u16 x1, .int .u16 x2, .int .u16 x3] 34)).alloc (.cells (zeros 4 (.int .i64 0)) 3)) 3 4
        simp only [World.size_alloc] at this
        exact this.mod (S := fun _ => False) (Mod.refl _).drew (fun h => h)
      have hB : Below w.heap.size w (((w.alloc (.cells #[.int .u16 x0, .int .u16 x1, .int .u16 x2, .int .u16 x3] 34)).alloc (.cells (zeros 4 (.int .i64 0)) 3)).alloc (.cells (zeros 4 (.int .i64 0)) 3)).drew := ((((Below.refl _ _).alloc (Nat.le_refl _) _).alloc (by simp) _).alloc (by simp; omega) _).drew
      generalize (((w.alloc (.cells #[.int .u16 x0, .int .u16 x1, .int .u16 x2, .int .u16 x3] 34)).alloc (.cells (zeros 4 (.int .i64 0)) 3)).alloc (.cells (zeros 4 (.int .i64 0)) 3)).drew = W3 at *
      obtain ⟨H, hH⟩ : ∃ H, H = w.heap.size := ⟨_, rfl⟩
      rw [← hH] at hA hI1 hI2 hB ⊢
      clear hmk
    · simp only [eK]
      have HHF := Lib.hid hH
      clear hH
      obtain ⟨s, hs⟩ : ∃ s : Nat → Nat, s = fun i => (if i = 0 then x0 else if i = 1 then x1 else if i = 2 then x2 else x3) % 2 ^ 10 := ⟨_, rfl⟩
      have hs0 : Hid (s 0 = x0 % 2 ^ 10) := Lib.hid (by rw [hs]; rfl)
      have hs1 : Hid (s 1 = x1 % 2 ^ 10) := Lib.hid (by rw [hs]; rfl)
      have hs2 : Hid (s 2 = x2 % 2 ^ 10) := Lib.hid (by rw [hs]; rfl)
      have hs3 : Hid (s 3 = x3 % 2 ^ 10) := Lib.hid (by rw [hs]; rfl)
      have HSL : Hid (∀ i, i < 4 → s i < 2 ^ 10) := Lib.hid (fun i _ => by rw [hs]; exact Nat.mod_lt _ (Nat.two_pow_pos 10))
      have hl0 : IA W3 3 (H + 1) (upTo 4 s 0) := by rw [upTo_zero]; exact hI1
      have hm0 : IA W3 3 (H + 1 + 1) (shOf K s 0) := by rw [shOf_zero]; exact hI2
      clear hs hI1 hI2
      go_loopw [11] (fun i wr => ∃ k : Nat, k ≤ 4 ∧ i = .int .i64 k ∧ IA wr 3 (H + 1) (upTo 4 s k) ∧ IA wr 3 (H + 1 + 1) (shOf K s k) ∧ Arr wr 34 H [.int .u16 x0, .int .u16 x1, .int .u16 x2, .int .u16 x3] ∧ Below H w wr) (fun i _ => 4 - (intOf i).toNat)
      case atStart => exact ⟨0, by omega, rfl, hl0, hm0, hA, hB⟩
      case round =>
        obtain ⟨k, hk, rfl, hl, hm, hA2, hB2⟩ := hrel
        clear hl0 hm0 hA hB
        have hkk : k = 0 ∨ k = 1 ∨ k = 2 ∨ k = 3 ∨ k = 4 := by omega
        have a0 := hA2.cell? 0
        have a1 := hA2.cell? 1
        have a2 := hA2.cell? 2
        have a3 := hA2.cell? 3
        simp only [List.getElem?_cons_zero, List.getElem?_cons_succ] at a0 a1 a2 a3
        rcases hkk with rfl | rfl | rfl | rfl | rfl
        · have hand : bits .and .i64 (x0 : Int) 1023 = ((x0 % 2 ^ 10 : Nat) : Int) := i64_andp x0 10 (by omega) (by omega)
          rw [← hs0.out] at hand
          obtain ⟨q, hq⟩ : ∃ q, q = (0 + K) % 4 := ⟨_, rfl⟩
          have eq : (K : Int) % 4 = (q : Int) := by omega
          have hq4 : q < 4 := by omega
          have hq0 : (0 : Int) ≤ (q : Int) := by omega
          have hq1 : (q : Int) < 4 := by omega
          have hul := upTo_length 4 s 0
          have hsl := shOf_length K s 0
          have cl := hl.cell (j := 0) (by omega)
          rw [upTo_nth _ _ _ _ (by omega), if_neg (by omega)] at cl
          have fl := hl.free 0
          have hl3 := hl.set_ 0 (s 0)
          rw [upTo_set] at hl3
          obtain ⟨v, hv⟩ : ∃ v, v = s 0 := ⟨_, rfl⟩
          rw [← hv] at hl3 hand
          have m1 := Mod.set1 wr (H + 1) 0 (.int .i64 (v : Nat))
          have hm1 := hm.mod m1 (by omega)
          have cm := hm1.cell (j := q) (by omega)
          have fm := hm1.free q
          obtain ⟨old, hold⟩ : ∃ old, old = nth (shOf K s 0) q := ⟨_, rfl⟩
          rw [← hold] at cm
          have hm3 := hm1.set_ q v
          rw [hv, hq, shOf_set K hK4 s 0 (by omega), ← hv, ← hq] at hm3
          have m2 := Mod.set1 (wr.setCell ⟨H + 1, 0, none⟩ (.int .i64 (v : Nat))) (H + 1 + 1) q (.int .i64 (v : Nat))
          have cl2 : (wr.setCell ⟨H + 1, 0, none⟩ (.int .i64 (v : Nat))).cell? ⟨H + 1, 0, none⟩ = some (.int .i64 (v : Nat)) := by
            have h := (hl.set_ 0 v).cell (j := 0) (by rw [List.length_set]; omega)
            rw [nth_set (by omega), if_pos rfl] at h; exact h
          have HL3 := Lib.hid (hl3.mod m2 (by omega))
          have HM3 := Lib.hid hm3
          have HA3 := Lib.hid ((hA2.mod m1 (by omega)).mod m2 (by omega))
          have HB3 := Lib.hid ((hB2.setCell (p := ⟨H + 1, 0, none⟩) (by dsimp only; omega) (.int .i64 (v : Nat))).setCell (p := ⟨H + 1 + 1, q, none⟩) (by dsimp only; omega) (.int .i64 (v : Nat)))
          clear hl hm hA2 hB2 hl3 hm3 hm1 m1 m2 hv hq hold hul hsl
          go_wp2_with fail
          go_roundw
          case rel => exact ⟨0 + 1, by omega, by rfl, HL3.out, HM3.out, HA3.out, HB3.out⟩
          case measure => simp [intOf]
        · have hand : bits .and .i64 (x1 : Int) 1023 = ((x1 % 2 ^ 10 : Nat) : Int) := i64_andp x1 10 (by omega) (by omega)
          rw [← hs1.out] at hand
          obtain ⟨q, hq⟩ : ∃ q, q = (1 + K) % 4 := ⟨_, rfl⟩
          have eq : (1 + (K : Int)) % 4 = (q : Int) := by omega
          have hq4 : q < 4 := by omega
          have hq0 : (0 : Int) ≤ (q : Int) := by omega
          have hq1 : (q : Int) < 4 := by omega
          have hul := upTo_length 4 s 1
          have hsl := shOf_length K s 1
          have cl := hl.cell (j := 1) (by omega)
          rw [upTo_nth _ _ _ _ (by omega), if_neg (by omega)] at cl
          have fl := hl.free 1
          have hl3 := hl.set_ 1 (s 1)
          rw [upTo_set] at hl3
          obtain ⟨v, hv⟩ : ∃ v, v = s 1 := ⟨_, rfl⟩
          rw [← hv] at hl3 hand
          have m1 := Mod.set1 wr (H + 1) 1 (.int .i64 (v : Nat))
          have hm1 := hm.mod m1 (by omega)
          have cm := hm1.cell (j := q) (by omega)
          have fm := hm1.free q
          obtain ⟨old, hold⟩ : ∃ old, old = nth (shOf K s 1) q := ⟨_, rfl⟩
          rw [← hold] at cm
          have hm3 := hm1.set_ q v
          rw [hv, hq, shOf_set K hK4 s 1 (by omega), ← hv, ← hq] at hm3
          have m2 := Mod.set1 (wr.setCell ⟨H + 1, 1, none⟩ (.int .i64 (v : Nat))) (H + 1 + 1) q (.int .i64 (v : Nat))
          have cl2 : (wr.setCell ⟨H + 1, 1, none⟩ (.int .i64 (v : Nat))).cell? ⟨H + 1, 1, none⟩ = some (.int .i64 (v : Nat)) := by
            have h := (hl.set_ 1 v).cell (j := 1) (by rw [List.length_set]; omega)
            rw [nth_set (by omega), if_pos rfl] at h; exact h
          have HL3 := Lib.hid (hl3.mod m2 (by omega))
          have HM3 := Lib.hid hm3
          have HA3 := Lib.hid ((hA2.mod m1 (by omega)).mod m2 (by omega))
          have HB3 := Lib.hid ((hB2.setCell (p := ⟨H + 1, 1, none⟩) (by dsimp only; omega) (.int .i64 (v : Nat))).setCell (p := ⟨H + 1 + 1, q, none⟩) (by dsimp only; omega) (.int .i64 (v : Nat)))
          clear hl hm hA2 hB2 hl3 hm3 hm1 m1 m2 hv hq hold hul hsl
          go_wp2_with fail
          go_roundw
          case rel => exact ⟨1 + 1, by omega, by rfl, HL3.out, HM3.out, HA3.out, HB3.out⟩
          case measure => simp [intOf]
        · have hand : bits .and .i64 (x2 : Int) 1023 = ((x2 % 2 ^ 10 : Nat) : Int) := i64_andp x2 10 (by omega) (by omega)
          rw [← hs2.out] at hand
          obtain ⟨q, hq⟩ : ∃ q, q = (2 + K) % 4 := ⟨_, rfl⟩
          have eq : (2 + (K : Int)) % 4 = (q : Int) := by omega
          have hq4 : q < 4 := by omega
          have hq0 : (0 : Int) ≤ (q : Int) := by omega
          have hq1 : (q : Int) < 4 := by omega
          have hul := upTo_length 4 s 2
          have hsl := shOf_length K s 2
          have cl := hl.cell (j := 2) (by omega)
          rw [upTo_nth _ _ _ _ (by omega), if_neg (by omega)] at cl
          have fl := hl.free 2
          have hl3 := hl.set_ 2 (s 2)
          rw [upTo_set] at hl3
          obtain ⟨v, hv⟩ : ∃ v, v = s 2 := ⟨_, rfl⟩
          rw [← hv] at hl3 hand
          have m1 := Mod.set1 wr (H + 1) 2 (.int .i64 (v : Nat))
          have hm1 := hm.mod m1 (by omega)
          have cm := hm1.cell (j := q) (by omega)
          have fm := hm1.free q
          obtain ⟨old, hold⟩ : ∃ old, old = nth (shOf K s 2) q := ⟨_, rfl⟩
          rw [← hold] at cm
          have hm3 := hm1.set_ q v
          rw [hv, hq, shOf_set K hK4 s 2 (by omega), ← hv, ← hq] at hm3
          have m2 := Mod.set1 (wr.setCell ⟨H + 1, 2, none⟩ (.int .i64 (v : Nat))) (H + 1 + 1) q (.int .i64 (v : Nat))
          have cl2 : (wr.setCell ⟨H + 1, 2, none⟩ (.int .i64 (v : Nat))).cell? ⟨H + 1, 2, none⟩ = some (.int .i64 (v : Nat)) := by
            have h := (hl.set_ 2 v).cell (j := 2) (by rw [List.length_set]; omega)
            rw [nth_set (by omega), if_pos rfl] at h; exact h
          have HL3 := Lib.hid (hl3.mod m2 (by omega))
          have HM3 := Lib.hid hm3
          have HA3 := Lib.hid ((hA2.mod m1 (by omega)).mod m2 (by omega))
          have HB3 := Lib.hid ((hB2.setCell (p := ⟨H + 1, 2, none⟩) (by dsimp only; omega) (.int .i64 (v : Nat))).setCell (p := ⟨H + 1 + 1, q, none⟩) (by dsimp only; omega) (.int .i64 (v : Nat)))
          clear hl hm hA2 hB2 hl3 hm3 hm1 m1 m2 hv hq hold hul hsl
          go_wp2_with fail
          go_roundw
          case rel => exact ⟨2 + 1, by omega, by rfl, HL3.out, HM3.out, HA3.out, HB3.out⟩
          case measure => simp [intOf]
        · have hand : bits .and .i64 (x3 : Int) 1023 = ((x3 % 2 ^ 10 : Nat) : Int) := i64_andp x3 10 (by omega) (by omega)
          rw [← hs3.out] at hand
          obtain ⟨q, hq⟩ : ∃ q, q = (3 + K) % 4 := ⟨_, rfl⟩
          have eq : (3 + (K : Int)) % 4 = (q : Int) := by omega
          have hq4 : q < 4 := by omega
          have hq0 : (0 : Int) ≤ (q : Int) := by omega
          have hq1 : (q : Int) < 4 := by omega
          have hul := upTo_length 4 s 3
          have hsl := shOf_length K s 3
          have cl := hl.cell (j := 3) (by omega)
          rw [upTo_nth _ _ _ _ (by omega), if_neg (by omega)] at cl
          have fl := hl.free 3
          have hl3 := hl.set_ 3 (s 3)
          rw [upTo_set] at hl3
          obtain ⟨v, hv⟩ : ∃ v, v = s 3 := ⟨_, rfl⟩
          rw [← hv] at hl3 hand
          have m1 := Mod.set1 wr (H + 1) 3 (.int .i64 (v : Nat))
          have hm1 := hm.mod m1 (by omega)
          have cm := hm1.cell (j := q) (by omega)
          have fm := hm1.free q
          obtain ⟨old, hold⟩ : ∃ old, old = nth (shOf K s 3) q := ⟨_, rfl⟩
          rw [← hold] at cm
          have hm3 := hm1.set_ q v
          rw [hv, hq, shOf_set K hK4 s 3 (by omega), ← hv, ← hq] at hm3
          have m2 := Mod.set1 (wr.setCell ⟨H + 1, 3, none⟩ (.int .i64 (v : Nat))) (H + 1 + 1) q (.int .i64 (v : Nat))
          have cl2 : (wr.setCell ⟨H + 1, 3, none⟩ (.int .i64 (v : Nat))).cell? ⟨H + 1, 3, none⟩ = some (.int .i64 (v : Nat)) := by
            have h := (hl.set_ 3 v).cell (j := 3) (by rw [List.length_set]; omega)
            rw [nth_set (by omega), if_pos rfl] at h; exact h
          have HL3 := Lib.hid (hl3.mod m2 (by omega))
          have HM3 := Lib.hid hm3
          have HA3 := Lib.hid ((hA2.mod m1 (by omega)).mod m2 (by omega))
          have HB3 := Lib.hid ((hB2.setCell (p := ⟨H + 1, 3, none⟩) (by dsimp only; omega) (.int .i64 (v : Nat))).setCell (p := ⟨H + 1 + 1, q, none⟩) (by dsimp only; omega) (.int .i64 (v : Nat)))
          clear hl hm hA2 hB2 hl3 hm3 hm1 m1 m2 hv hq hold hul hsl
          go_wp2_with fail
          go_roundw
          case rel => exact ⟨3 + 1, by omega, by rfl, HL3.out, HM3.out, HA3.out, HB3.out⟩
          case measure => simp [intOf]
        · have hrl := upTo_rd hl (Nat.le_refl 4)
          have hrm := shOf_rd hm
          have hbw : Below w.heap.size w wr := by rw [← HHF.out]; exact hB2
          have ht : ∀ i, i < 4 → tk 10 (s i) < 8 := fun i hi => tk_lt (by omega) (HSL.out i hi)
          have hby := rot_by (ht 0 (by omega)) (ht 1 (by omega)) (ht 2 (by omega)) (ht 3 (by omega)) hK4
          have hrle := rot_le (ht 0 (by omega)) (ht 1 (by omega)) (ht 2 (by omega)) (ht 3 (by omega))
          rw [sd_eq, sd_eq, sd_eq, sd_eq] at hby
          have HT1 := azTurn s 10 (by omega) HSL.out (some ⟨H + 1, 0, none⟩) 4 4 rfl wr hrl
          have HT2 := Lib.hid (fun W hW => azTurn (fun j => s ((j + 4 - K) % 4)) 10 (by omega) (fun i hi => HSL.out _ (by omega)) (some ⟨H + 1 + 1, 0, none⟩) 4 4 rfl W hW)
          have HUP := Lib.hid (fun W hW => azUpper s 10 (by omega) HSL.out (some ⟨H + 1, 0, none⟩) 4 W hW)
          have hr2 : rot (tk 10 (s ((0 + 4 - K) % 4))) (tk 10 (s ((1 + 4 - K) % 4))) (tk 10 (s ((2 + 4 - K) % 4))) (tk 10 (s ((3 + 4 - K) % 4))) = if rot (tk 10 (s 0)) (tk 10 (s 1)) (tk 10 (s 2)) (tk 10 (s 3)) = 4 then 4 else (rot (tk 10 (s 0)) (tk 10 (s 1)) (tk 10 (s 2)) (tk 10 (s 3)) + K) % 4 := by
            rw [← hby]
          have HT2' : Hid (∀ W, Rd W (some ⟨H + 1 + 1, 0, none⟩) 4 (fun j => .int .i64 (s ((j + 4 - K) % 4) : Nat)) → Calls Try.prog 18 #[.slice (some ⟨H + 1 + 1, 0, none⟩) 4 4, .int .i64 10] W (TurnPost (if rot (tk 10 (s 0)) (tk 10 (s 1)) (tk 10 (s 2)) (tk 10 (s 3)) = 4 then 4 else (rot (tk 10 (s 0)) (tk 10 (s 1)) (tk 10 (s 2)) (tk 10 (s 3)) + K) % 4) W)) := Lib.hid (by
            intro W hW; have h := HT2.out W hW; rw [hr2] at h; exact h)
          generalize rot (tk 10 (s 0)) (tk 10 (s 1)) (tk 10 (s 2)) (tk 10 (s 3)) = r at *
          have HT1 := Lib.hid HT1
          have HRL := Lib.hid hrl
          have HRM := Lib.hid hrm
          have HBW := Lib.hid hbw
          clear hl hm hA2 hB2 hrl hrm hbw ht hby hr2 HT2 a0 a1 a2 a3
          go_wp2_with fail
          refine HT1.out.mono ?_
          rintro e w2 ⟨hb2, ⟨hr, rfl⟩ | ⟨hr, rfl⟩⟩
          · have HR := Lib.hid hr
            have HB2 := Lib.hid (HBW.out.trans (hb2.mono HBW.out.size))
            have HRM2 := Lib.hid (HRM.out.below hb2)
            have HRL2 := Lib.hid (HRL.out.below hb2)
            have HT3 := HT2'.out w2 HRM2.out
            rw [if_neg (by omega)] at HT3
            obtain ⟨q, hq⟩ : ∃ q, q = (r + K) % 4 := ⟨_, rfl⟩
            have eq : ((r : Int) + (K : Int)) % 4 = (q : Int) := by omega
            have hq4 : q < 4 := by omega
            rw [← hq] at HT3
            have HT3 := Lib.hid HT3
            clear hr hb2 hq
            go_wp2_with fail
            refine HT3.out.mono ?_
            rintro e w3 ⟨hb3, ⟨hr3, rfl⟩ | ⟨hr3, rfl⟩⟩
            · have HB3 := Lib.hid (HB2.out.trans (hb3.mono HB2.out.size))
              have HU := Lib.hid (HUP.out w3 (HRL2.out.below hb3))
              have hqq : ((q : Int) == (q : Int)) = true := by simp
              clear hb3 hr3
              go_wp2_with fail
              refine HU.out.mono ?_
              rintro e w4 ⟨hb4, u, f, rfl, hf⟩
              have HB4 := Lib.hid (HB3.out.trans (hb4.mono HB3.out.size))
              clear hb4 hf
              go_wp2_with fail
              go_ret
              exact ⟨rfl, HB4.out⟩
            · omega
          · have HR := Lib.hid hr
            have HB2 := Lib.hid (HBW.out.trans (hb2.mono HBW.out.size))
            have HRM2 := Lib.hid (HRM.out.below hb2)
            have HRL2 := Lib.hid (HRL.out.below hb2)
            have HT3 := HT2'.out w2 HRM2.out
            rw [if_pos hr] at HT3
            have HT3 := Lib.hid HT3
            clear hr hb2
            go_wp2_with fail
            refine HT3.out.mono ?_
            rintro e w3 ⟨hb3, ⟨hr3, rfl⟩ | ⟨hr3, rfl⟩⟩
            · omega
            · have HB3 := Lib.hid (HB2.out.trans (hb3.mono HB2.out.size))
              have HU := Lib.hid (HUP.out w3 (HRL2.out.below hb3))
              clear hb3 hr3
              go_wp2_with fail
              refine HU.out.mono ?_
              rintro e w4 ⟨hb4, u, f, rfl, hf⟩
              have hff : f = false := hf HR.out
              subst hff
              have HB4 := Lib.hid (HB3.out.trans (hb4.mono HB3.out.size))
              clear hb4 hf
              go_wp2_with fail
              go_ret
              exact ⟨rfl, HB4.out⟩
    · simp only [eK]
      have HHF := Lib.hid hH
      clear hH
      obtain ⟨s, hs⟩ : ∃ s : Nat → Nat, s = fun i => (if i = 0 then x0 else if i = 1 then x1 else if i = 2 then x2 else x3) % 2 ^ 10 := ⟨_, rfl⟩
      have hs0 : Hid (s 0 = x0 % 2 ^ 10) := Lib.hid (by rw [hs]; rfl)
      have hs1 : Hid (s 1 = x1 % 2 ^ 10) := Lib.hid (by rw [hs]; rfl)
      have hs2 : Hid (s 2 = x2 % 2 ^ 10) := Lib.hid (by rw [hs]; rfl)
      have hs3 : Hid (s 3 = x3 % 2 ^ 10) := Lib.hid (by rw [hs]; rfl)
      have HSL : Hid (∀ i, i < 4 → s i < 2 ^ 10) := Lib.hid (fun i _ => by rw [hs]; exact Nat.mod_lt _ (Nat.two_pow_pos 10))
      have hl0 : IA W3 3 (H + 1 + 1) (upTo 4 s 0) := by rw [upTo_zero]; exact hI2
      have hm0 : IA W3 3 (H + 1) (shOf K s 0) := by rw [shOf_zero]; exact hI1
      clear hs hI1 hI2
      go_loopw [11] (fun i wr => ∃ k : Nat, k ≤ 4 ∧ i = .int .i64 k ∧ IA wr 3 (H + 1 + 1) (upTo 4 s k) ∧ IA wr 3 (H + 1) (shOf K s k) ∧ Arr wr 34 H [.int .u16 x0, .int .u16 x1, .int .u16 x2, .int .u16 x3] ∧ Below H w wr) (fun i _ => 4 - (intOf i).toNat)
      case atStart => exact ⟨0, by omega, rfl, hl0, hm0, hA, hB⟩
      case round =>
        obtain ⟨k, hk, rfl, hl, hm, hA2, hB2⟩ := hrel
        clear hl0 hm0 hA hB
        have hkk : k = 0 ∨ k = 1 ∨ k = 2 ∨ k = 3 ∨ k = 4 := by omega
        have a0 := hA2.cell? 0
        have a1 := hA2.cell? 1
        have a2 := hA2.cell? 2
        have a3 := hA2.cell? 3
        simp only [List.getElem?_cons_zero, List.getElem?_cons_succ] at a0 a1 a2 a3
        rcases hkk with rfl | rfl | rfl | rfl | rfl
        · have hand : bits .and .i64 (x0 : Int) 1023 = ((x0 % 2 ^ 10 : Nat) : Int) := i64_andp x0 10 (by omega) (by omega)
          rw [← hs0.out] at hand
          obtain ⟨q, hq⟩ : ∃ q, q = (0 + K) % 4 := ⟨_, rfl⟩
          have eq : (K : Int) % 4 = (q : Int) := by omega
          have hq4 : q < 4 := by omega
          have hq0 : (0 : Int) ≤ (q : Int) := by omega
          have hq1 : (q : Int) < 4 := by omega
          have hul := upTo_length 4 s 0
          have hsl := shOf_length K s 0
          have cl := hl.cell (j := 0) (by omega)
          rw [upTo_nth _ _ _ _ (by omega), if_neg (by omega)] at cl
          have fl := hl.free 0
          have hl3 := hl.set_ 0 (s 0)
          rw [upTo_set] at hl3
          obtain ⟨v, hv⟩ : ∃ v, v = s 0 := ⟨_, rfl⟩
          rw [← hv] at hl3 hand
          have m1 := Mod.set1 wr (H + 1 + 1) 0 (.int .i64 (v : Nat))
          have hm1 := hm.mod m1 (by omega)
          have cm := hm1.cell (j := q) (by omega)
          have fm := hm1.free q
          obtain ⟨old, hold⟩ : ∃ old, old = nth (shOf K s 0) q := ⟨_, rfl⟩
          rw [← hold] at cm
          have hm3 := hm1.set_ q v
          rw [hv, hq, shOf_set K hK4 s 0 (by omega), ← hv, ← hq] at hm3
          have m2 := Mod.set1 (wr.setCell ⟨H + 1 + 1, 0, none⟩ (.int .i64 (v : Nat))) (H + 1) q (.int .i64 (v : Nat))
          have cl2 : (wr.setCell ⟨H + 1 + 1, 0, none⟩ (.int .i64 (v : Nat))).cell? ⟨H + 1 + 1, 0, none⟩ = some (.int .i64 (v : Nat)) := by
            have h := (hl.set_ 0 v).cell (j := 0) (by rw [List.length_set]; omega)
            rw [nth_set (by omega), if_pos rfl] at h; exact h
          have HL3 := Lib.hid (hl3.mod m2 (by omega))
          have HM3 := Lib.hid hm3
          have HA3 := Lib.hid ((hA2.mod m1 (by omega)).mod m2 (by omega))
          have HB3 := Lib.hid ((hB2.setCell (p := ⟨H + 1 + 1, 0, none⟩) (by dsimp only; omega) (.int .i64 (v : Nat))).setCell (p := ⟨H + 1, q, none⟩) (by dsimp only; omega) (.int .i64 (v : Nat)))
          clear hl hm hA2 hB2 hl3 hm3 hm1 m1 m2 hv hq hold hul hsl
          go_wp2_with fail
          go_roundw
          case rel => exact ⟨0 + 1, by omega, by rfl, HL3.out, HM3.out, HA3.out, HB3.out⟩
          case measure => simp [intOf]
        · have hand : bits .and .i64 (x1 : Int) 1023 = ((x1 % 2 ^ 10 : Nat) : Int) := i64_andp x1 10 (by omega) (by omega)
          rw [← hs1.out] at hand
          obtain ⟨q, hq⟩ : ∃ q, q = (1 + K) % 4 := ⟨_, rfl⟩
          have eq : (1 + (K : Int)) % 4 = (q : Int) := by omega
          have hq4 : q < 4 := by omega
          have hq0 : (0 : Int) ≤ (q : Int) := by omega
          have hq1 : (q : Int) < 4 := by omega
          have hul := upTo_length 4 s 1
          have hsl := shOf_length K s 1
          have cl := hl.cell (j := 1) (by omega)
          rw [upTo_nth _ _ _ _ (by omega), if_neg (by omega)] at cl
          have fl := hl.free 1
          have hl3 := hl.set_ 1 (s 1)
          rw [upTo_set] at hl3
          obtain ⟨v, hv⟩ : ∃ v, v = s 1 := ⟨_, rfl⟩
          rw [← hv] at hl3 hand
          have m1 := Mod.set1 wr (H + 1 + 1) 1 (.int .i64 (v : Nat))
          have hm1 := hm.mod m1 (by omega)
          have cm := hm1.cell (j := q) (by omega)
          have fm := hm1.free q
          obtain ⟨old, hold⟩ : ∃ old, old = nth (shOf K s 1) q := ⟨_, rfl⟩
          rw [← hold] at cm
          have hm3 := hm1.set_ q v
          rw [hv, hq, shOf_set K hK4 s 1 (by omega), ← hv, ← hq] at hm3
          have m2 := Mod.set1 (wr.setCell ⟨H + 1 + 1, 1, none⟩ (.int .i64 (v : Nat))) (H + 1) q (.int .i64 (v : Nat))
          have cl2 : (wr.setCell ⟨H + 1 + 1, 1, none⟩ (.int .i64 (v : Nat))).cell? ⟨H + 1 + 1, 1, none⟩ = some (.int .i64 (v : Nat)) := by
            have h := (hl.set_ 1 v).cell (j := 1) (by rw [List.length_set]; omega)
            rw [nth_set (by omega), if_pos rfl] at h; exact h
          have HL3 := Lib.hid (hl3.mod m2 (by omega))
          have HM3 := Lib.hid hm3
          have HA3 := Lib.hid ((hA2.mod m1 (by omega)).mod m2 (by omega))
          have HB3 := Lib.hid ((hB2.setCell (p := ⟨H + 1 + 1, 1, none⟩) (by dsimp only; omega) (.int .i64 (v : Nat))).setCell (p := ⟨H + 1, q, none⟩) (by dsimp only; omega) (.int .i64 (v : Nat)))
          clear hl hm hA2 hB2 hl3 hm3 hm1 m1 m2 hv hq hold hul hsl
          go_wp2_with fail
          go_roundw
          case rel => exact ⟨1 + 1, by omega, by rfl, HL3.out, HM3.out, HA3.out, HB3.out⟩
          case measure => simp [intOf]
        · have hand : bits .and .i64 (x2 : Int) 1023 = ((x2 % 2 ^ 10 : Nat) : Int) := i64_andp x2 10 (by omega) (by omega)
          rw [← hs2.out] at hand
          obtain ⟨q, hq⟩ : ∃ q, q = (2 + K) % 4 := ⟨_, rfl⟩
          have eq : (2 + (K : Int)) % 4 = (q : Int) := by omega
          have hq4 : q < 4 := by omega
          have hq0 : (0 : Int) ≤ (q : Int) := by omega
          have hq1 : (q : Int) < 4 := by omega
          have hul := upTo_length 4 s 2
          have hsl := shOf_length K s 2
          have cl := hl.cell (j := 2) (by omega)
          rw [upTo_nth _ _ _ _ (by omega), if_neg (by omega)] at cl
          have fl := hl.free 2
          have hl3 := hl.set_ 2 (s 2)
          rw [upTo_set] at hl3
          obtain ⟨v, hv⟩ : ∃ v, v = s 2 := ⟨_, rfl⟩
          rw [← hv] at hl3 hand
          have m1 := Mod.set1 wr (H + 1 + 1) 2 (.int .i64 (v : Nat))
          have hm1 := hm.mod m1 (by omega)
          have cm := hm1.cell (j := q) (by omega)
          have fm := hm1.free q
          obtain ⟨old, hold⟩ : ∃ old, old = nth (shOf K s 2) q := ⟨_, rfl⟩
          rw [← hold] at cm
          have hm3 := hm1.set_ q v
          rw [hv, hq, shOf_set K hK4 s 2 (by omega), ← hv, ← hq] at hm3
          have m2 := Mod.set1 (wr.setCell ⟨H + 1 + 1, 2, none⟩ (.int .i64 (v : Nat))) (H + 1) q (.int .i64 (v : Nat))
          have cl2 : (wr.setCell ⟨H + 1 + 1, 2, none⟩ (.int .i64 (v : Nat))).cell? ⟨H + 1 + 1, 2, none⟩ = some (.int .i64 (v : Nat)) := by
            have h := (hl.set_ 2 v).cell (j := 2) (by rw [List.length_set]; omega)
            rw [nth_set (by omega), if_pos rfl] at h; exact h
          have HL3 := Lib.hid (hl3.mod m2 (by omega))
          have HM3 := Lib.hid hm3
          have HA3 := Lib.hid ((hA2.mod m1 (by omega)).mod m2 (by omega))
          have HB3 := Lib.hid ((hB2.setCell (p := ⟨H + 1 + 1, 2, none⟩) (by dsimp only; omega) (.int .i64 (v : Nat))).setCell (p := ⟨H + 1, q, none⟩) (by dsimp only; omega) (.int .i64 (v : Nat)))
          clear hl hm hA2 hB2 hl3 hm3 hm1 m1 m2 hv hq hold hul hsl
          go_wp2_with fail
          go_roundw
          case rel => exact ⟨2 + 1, by omega, by rfl, HL3.out, HM3.out, HA3.out, HB3.out⟩
          case measure => simp [intOf]
        · have hand : bits .and .i64 (x3 : Int) 1023 = ((x3 % 2 ^ 10 : Nat) : Int) := i64_andp x3 10 (by omega) (by omega)
          rw [← hs3.out] at hand
          obtain ⟨q, hq⟩ : ∃ q, q = (3 + K) % 4 := ⟨_, rfl⟩
          have eq : (3 + (K : Int)) % 4 = (q : Int) := by omega
          have hq4 : q < 4 := by omega
          have hq0 : (0 : Int) ≤ (q : Int) := by omega
          have hq1 : (q : Int) < 4 := by omega
          have hul := upTo_length 4 s 3
          have hsl := shOf_length K s 3
          have cl := hl.cell (j := 3) (by omega)
          rw [upTo_nth _ _ _ _ (by omega), if_neg (by omega)] at cl
          have fl := hl.free 3
          have hl3 := hl.set_ 3 (s 3)
          rw [upTo_set] at hl3
          obtain ⟨v, hv⟩ : ∃ v, v = s 3 := ⟨_, rfl⟩
          rw [← hv] at hl3 hand
          have m1 := Mod.set1 wr (H + 1 + 1) 3 (.int .i64 (v : Nat))
          have hm1 := hm.mod m1 (by omega)
          have cm := hm1.cell (j := q) (by omega)
          have fm := hm1.free q
          obtain ⟨old, hold⟩ : ∃ old, old = nth (shOf K s 3) q := ⟨_, rfl⟩
          rw [← hold] at cm
          have hm3 := hm1.set_ q v
          rw [hv, hq, shOf_set K hK4 s 3 (by omega), ← hv, ← hq] at hm3
          have m2 := Mod.set1 (wr.setCell ⟨H + 1 + 1, 3, none⟩ (.int .i64 (v : Nat))) (H + 1) q (.int .i64 (v : Nat))
          have cl2 : (wr.setCell ⟨H + 1 + 1, 3, none⟩ (.int .i64 (v : Nat))).cell? ⟨H + 1 + 1, 3, none⟩ = some (.int .i64 (v : Nat)) := by
            have h := (hl.set_ 3 v).cell (j := 3) (by rw [List.length_set]; omega)
            rw [nth_set (by omega), if_pos rfl] at h; exact h
          have HL3 := Lib.hid (hl3.mod m2 (by omega))
          have HM3 := Lib.hid hm3
          have HA3 := Lib.hid ((hA2.mod m1 (by omega)).mod m2 (by omega))
          have HB3 := Lib.hid ((hB2.setCell (p := ⟨H + 1 + 1, 3, none⟩) (by dsimp only; omega) (.int .i64 (v : Nat))).setCell (p := ⟨H + 1, q, none⟩) (by dsimp only; omega) (.int .i64 (v : Nat)))
          clear hl hm hA2 hB2 hl3 hm3 hm1 m1 m2 hv hq hold hul hsl
          go_wp2_with fail
          go_roundw
          case rel => exact ⟨3 + 1, by omega, by rfl, HL3.out, HM3.out, HA3.out, HB3.out⟩
          case measure => simp [intOf]
        · have hrl := upTo_rd hl (Nat.le_refl 4)
          have hrm := shOf_rd hm
          have hbw : Below w.heap.size w wr := by rw [← HHF.out]; exact hB2
          have ht : ∀ i, i < 4 → tk 10 (s i) < 8 := fun i hi => tk_lt (by omega) (HSL.out i hi)
          have hby := rot_by (ht 0 (by omega)) (ht 1 (by omega)) (ht 2 (by omega)) (ht 3 (by omega)) hK4
          have hrle := rot_le (ht 0 (by omega)) (ht 1 (by omega)) (ht 2 (by omega)) (ht 3 (by omega))
          rw [sd_eq, sd_eq, sd_eq, sd_eq] at hby
          have HT1 := azTurn s 10 (by omega) HSL.out (some ⟨H + 1 + 1, 0, none⟩) 4 4 rfl wr hrl
          have HT2 := Lib.hid (fun W hW => azTurn (fun j => s ((j + 4 - K) % 4)) 10 (by omega) (fun i hi => HSL.out _ (by omega)) (some ⟨H + 1, 0, none⟩) 4 4 rfl W hW)
          have HUP := Lib.hid (fun W hW => azUpper s 10 (by omega) HSL.out (some ⟨H + 1 + 1, 0, none⟩) 4 W hW)
          have hr2 : rot (tk 10 (s ((0 + 4 - K) % 4))) (tk 10 (s ((1 + 4 - K) % 4))) (tk 10 (s ((2 + 4 - K) % 4))) (tk 10 (s ((3 + 4 - K) % 4))) = if rot (tk 10 (s 0)) (tk 10 (s 1)) (tk 10 (s 2)) (tk 10 (s 3)) = 4 then 4 else (rot (tk 10 (s 0)) (tk 10 (s 1)) (tk 10 (s 2)) (tk 10 (s 3)) + K) % 4 := by
            rw [← hby]
          have HT2' : Hid (∀ W, Rd W (some ⟨H + 1, 0, none⟩) 4 (fun j => .int .i64 (s ((j + 4 - K) % 4) : Nat)) → Calls Try.prog 18 #[.slice (some ⟨H + 1, 0, none⟩) 4 4, .int .i64 10] W (TurnPost (if rot (tk 10 (s 0)) (tk 10 (s 1)) (tk 10 (s 2)) (tk 10 (s 3)) = 4 then 4 else (rot (tk 10 (s 0)) (tk 10 (s 1)) (tk 10 (s 2)) (tk 10 (s 3)) + K) % 4) W)) := Lib.hid (by
            intro W hW; have h := HT2.out W hW; rw [hr2] at h; exact h)
          generalize rot (tk 10 (s 0)) (tk 10 (s 1)) (tk 10 (s 2)) (tk 10 (s 3)) = r at *
          have HT1 := Lib.hid HT1
          have HRL := Lib.hid hrl
          have HRM := Lib.hid hrm
          have HBW := Lib.hid hbw
          clear hl hm hA2 hB2 hrl hrm hbw ht hby hr2 HT2 a0 a1 a2 a3
          go_wp2_with fail
          refine HT1.out.mono ?_
          rintro e w2 ⟨hb2, ⟨hr, rfl⟩ | ⟨hr, rfl⟩⟩
          · have HR := Lib.hid hr
            have HB2 := Lib.hid (HBW.out.trans (hb2.mono HBW.out.size))
            have HRM2 := Lib.hid (HRM.out.below hb2)
            have HRL2 := Lib.hid (HRL.out.below hb2)
            have HT3 := HT2'.out w2 HRM2.out
            rw [if_neg (by omega)] at HT3
            obtain ⟨q, hq⟩ : ∃ q, q = (r + K) % 4 := ⟨_, rfl⟩
            have eq : ((r : Int) + (K : Int)) % 4 = (q : Int) := by omega
            have hq4 : q < 4 := by omega
            rw [← hq] at HT3
            have HT3 := Lib.hid HT3
            clear hr hb2 hq
            go_wp2_with fail
            refine HT3.out.mono ?_
            rintro e w3 ⟨hb3, ⟨hr3, rfl⟩ | ⟨hr3, rfl⟩⟩
            · have HB3 := Lib.hid (HB2.out.trans (hb3.mono HB2.out.size))
              have HU := Lib.hid (HUP.out w3 (HRL2.out.below hb3))
              have hqq : ((q : Int) == (q : Int)) = true := by simp
              clear hb3 hr3
              go_wp2_with fail
              refine HU.out.mono ?_
              rintro e w4 ⟨hb4, u, f, rfl, hf⟩
              have HB4 := Lib.hid (HB3.out.trans (hb4.mono HB3.out.size))
              clear hb4 hf
              go_wp2_with fail
              go_ret
              exact ⟨rfl, HB4.out⟩
            · omega
          · have HR := Lib.hid hr
            have HB2 := Lib.hid (HBW.out.trans (hb2.mono HBW.out.size))
            have HRM2 := Lib.hid (HRM.out.below hb2)
            have HRL2 := Lib.hid (HRL.out.below hb2)
            have HT3 := HT2'.out w2 HRM2.out
            rw [if_pos hr] at HT3
            have HT3 := Lib.hid HT3
            clear hr hb2
            go_wp2_with fail
            refine HT3.out.mono ?_
            rintro e w3 ⟨hb3, ⟨hr3, rfl⟩ | ⟨hr3, rfl⟩⟩
            · omega
            · have HB3 := Lib.hid (HB2.out.trans (hb3.mono HB2.out.size))
              have HU := Lib.hid (HUP.out w3 (HRL2.out.below hb3))
              clear hb3 hr3
              go_wp2_with fail
              refine HU.out.mono ?_
              rintro e w4 ⟨hb4, u, f, rfl, hf⟩
              have hff : f = false := hf HR.out
              subst hff
              have HB4 := Lib.hid (HB3.out.trans (hb4.mono HB3.out.size))
              clear hb4 hf
              go_wp2_with fail
              go_ret
              exact ⟨rfl, HB4.out⟩
  | false =>
    go_enter Try.func5, Try.ntmps5
    go_wp2_with fail
    refine (HL.out _).mono ?_
    rintro e w1 ⟨rfl, rfl⟩
    go_wp2_with fail
    go_region
    all_goals go_wp2_with fail
    all_goals
      have hA : Arr (((w.alloc (.cells #[.int .u16 x0, .int .u16 x1, .int .u16 x2, .int .u16 x3] 34)).alloc (.cells (zeros 4 (.int .i64 0)) 3)).alloc (.cells (zeros 4 (.int .i64 0)) 3)).drew 34 w.heap.size [.int .u16 x0, .int .u16 x1, .int .u16 x2, .int .u16 x3] := by
        show Arr (((w.alloc (.cells #[.int .u16 x0, .int .u16 x1, .int .u16 x2, .int .u16 x3] 34)).alloc (.cells (zeros 4 (.int .i64 0)) 3)).alloc (.cells (zeros 4 (.int .i64 0)) 3)) 34 w.heap.size _
        unfold Arr
        rw [Below.heap_alloc _ _ _ (by simp; omega), Below.heap_alloc _ _ _ (by simp), heap_alloc_new]
      have hI1 : IA (((w.alloc (.cells #[.int .u16 x0, .int .u16 x1, .int .u16 x2, .int .u16 x3] 34)).alloc (.cells (zeros 4 (.int .i64 0)) 3)).alloc (.cells (zeros 4 (.int .i64 0)) 3)).drew 3 (w.heap.size + 1) (List.replicate 4 0) := by
        have := (IA.zeros (w.alloc (.cells #[.int .u16 x0, .int .u16 x1, .int .u16 x2, .int .u16 x3] 34)) 3 4).mod (S := fun _ => False) ((Mod.refl _).alloc (.cells (zeros 4 (.int .i64 0)) 3)) (fun h => h)
        simp only [World.size_alloc] at this
        exact this.mod (S := fun _ => False) (Mod.refl _).drew (fun h => h)
      have hI2 : IA (((w.alloc (.cells #[.int .u16 x0, .int .u16 x1, .int .u16 x2, .int .u16 x3] 34)).alloc (.cells (zeros 4 (.int .i64 0)) 3)).alloc (.cells (zeros 4 (.int .i64 0)) 3)).drew 3 (w.heap.size + 1 + 1) (List.replicate 4 0) := by
        have := IA.zeros ((w.alloc (.cells #[.int .u16 x0, .int .u16 x1, .int .u16 x2, .int .u16 x3] 34)).alloc (.cells (zeros 4 (.int .i64 0)) 3)) 3 4
        simp only [World.size_alloc] at this
        exact this.mod (S := fun _ => False) (Mod.refl _).drew (fun h => h)
      have hB : Below w.heap.size w (((w.alloc (.cells #[.int .u16 x0, .int .u16 x1, .int .u16 x2, .int .u16 x3] 34)).alloc (.cells (zeros 4 (.int .i64 0)) 3)).alloc (.cells (zeros 4 (.int .i64 0)) 3)).drew := ((((Below.refl _ _).alloc (Nat.le_refl _) _).alloc (by simp) _).alloc (by simp; omega) _).drew
      generalize (((w.alloc (.cells #[.int .u16 x0, .int .u16 x1, .int .u16 x2, .int .u16 x3] 34)).alloc (.cells (zeros 4 (.int .i64 0)) 3)).alloc (.cells (zeros 4 (.int .i64 0)) 3)).drew = W3 at *
      obtain ⟨H, hH⟩ : ∃ H, H = w.heap.size := ⟨_, rfl⟩
      rw [← hH] at hA hI1 hI2 hB ⊢
      clear hmk
    · simp only [eK]
      have HHF := Lib.hid hH
      clear hH
      obtain ⟨s, hs⟩ : ∃ s : Nat → Nat, s = fun i => (if i = 0 then x0 else if i = 1 then x1 else if i = 2 then x2 else x3) % 2 ^ 14 := ⟨_, rfl⟩
      have hs0 : Hid (s 0 = x0 % 2 ^ 14) := Lib.hid (by rw [hs]; rfl)
      have hs1 : Hid (s 1 = x1 % 2 ^ 14) := Lib.hid (by rw [hs]; rfl)
      have hs2 : Hid (s 2 = x2 % 2 ^ 14) := Lib.hid (by rw [hs]; rfl)
      have hs3 : Hid (s 3 = x3 % 2 ^ 14) := Lib.hid (by rw [hs]; rfl)
      have HSL : Hid (∀ i, i < 4 → s i < 2 ^ 14) := Lib.hid (fun i _ => by rw [hs]; exact Nat.mod_lt _ (Nat.two_pow_pos 14))
      have hl0 : IA W3 3 (H + 1) (upTo 4 s 0) := by rw [upTo_zero]; exact hI1
      have hm0 : IA W3 3 (H + 1 + 1) (shOf K s 0) := by rw [shOf_zero]; exact hI2
      clear hs hI1 hI2
      go_loopw [11] (fun i wr => ∃ k : Nat, k ≤ 4 ∧ i = .int .i64 k ∧ IA wr 3 (H + 1) (upTo 4 s k) ∧ IA wr 3 (H + 1 + 1) (shOf K s k) ∧ Arr wr 34 H [.int .u16 x0, .int .u16 x1, .int .u16 x2, .int .u16 x3] ∧ Below H w wr) (fun i _ => 4 - (intOf i).toNat)
      case atStart => exact ⟨0, by omega, rfl, hl0, hm0, hA, hB⟩
      case round =>
        obtain ⟨k, hk, rfl, hl, hm, hA2, hB2⟩ := hrel
        clear hl0 hm0 hA hB
        have hkk : k = 0 ∨ k = 1 ∨ k = 2 ∨ k = 3 ∨ k = 4 := by omega
        have a0 := hA2.cell? 0
        have a1 := hA2.cell? 1
        have a2 := hA2.cell? 2
        have a3 := hA2.cell? 3
        simp only [List.getElem?_cons_zero, List.getElem?_cons_succ] at a0 a1 a2 a3
        rcases hkk with rfl | rfl | rfl | rfl | rfl
        · have hand : bits .and .i64 (x0 : Int) 16383 = ((x0 % 2 ^ 14 : Nat) : Int) := i64_andp x0 14 (by omega) (by omega)
          rw [← hs0.out] at hand
          obtain ⟨q, hq⟩ : ∃ q, q = (0 + K) % 4 := ⟨_, rfl⟩
          have eq : (K : Int) % 4 = (q : Int) := by omega
          have hq4 : q < 4 := by omega
          have hq0 : (0 : Int) ≤ (q : Int) := by omega
          have hq1 : (q : Int) < 4 := by omega
          have hul := upTo_length 4 s 0
          have hsl := shOf_length K s 0
          have cl := hl.cell (j := 0) (by omega)
          rw [upTo_nth _ _ _ _ (by omega), if_neg (by omega)] at cl
          have fl := hl.free 0
          have hl3 := hl.set_ 0 (s 0)
          rw [upTo_set] at hl3
          obtain ⟨v, hv⟩ : ∃ v, v = s 0 := ⟨_, rfl⟩
          rw [← hv] at hl3 hand
          have m1 := Mod.set1 wr (H + 1) 0 (.int .i64 (v : Nat))
          have hm1 := hm.mod m1 (by omega)
          have cm := hm1.cell (j := q) (by omega)
          have fm := hm1.free q
          obtain ⟨old, hold⟩ : ∃ old, old = nth (shOf K s 0) q := ⟨_, rfl⟩
          rw [← hold] at cm
          have hm3 := hm1.set_ q v
          rw [hv, hq, shOf_set K hK4 s 0 (by omega), ← hv, ← hq] at hm3
          have m2 := Mod.set1 (wr.setCell ⟨H + 1, 0, none⟩ (.int .i64 (v : Nat))) (H + 1 + 1) q (.int .i64 (v : Nat))
          have cl2 : (wr.setCell ⟨H + 1, 0, none⟩ (.int .i64 (v : Nat))).cell? ⟨H + 1, 0, none⟩ = some (.int .i64 (v : Nat)) := by
            have h := (hl.set_ 0 v).cell (j := 0) (by rw [List.length_set]; omega)
            rw [nth_set (by omega), if_pos rfl] at h; exact h
          have HL3 := Lib.hid (hl3.mod m2 (by omega))
          have HM3 := Lib.hid hm3
          have HA3 := Lib.hid ((hA2.mod m1 (by omega)).mod m2 (by omega))
          have HB3 := Lib.hid ((hB2.setCell (p := ⟨H + 1, 0, none⟩) (by dsimp only; omega) (.int .i64 (v : Nat))).setCell (p := ⟨H + 1 + 1, q, none⟩) (by dsimp only; omega) (.int .i64 (v : Nat)))
          clear hl hm hA2 hB2 hl3 hm3 hm1 m1 m2 hv hq hold hul hsl
          go_wp2_with fail
          go_roundw
          case rel => exact ⟨0 + 1, by omega, by rfl, HL3.out, HM3.out, HA3.out, HB3.out⟩
          case measure => simp [intOf]
        · have hand : bits .and .i64 (x1 : Int) 16383 = ((x1 % 2 ^ 14 : Nat) : Int) := i64_andp x1 14 (by omega) (by omega)
          rw [← hs1.out] at hand
          obtain ⟨q, hq⟩ : ∃ q, q = (1 + K) % 4 := ⟨_, rfl⟩
          have eq : (1 + (K : Int)) % 4 = (q : Int) := by omega
          have hq4 : q < 4 := by omega
          have hq0 : (0 : Int) ≤ (q : Int) := by omega
          have hq1 : (q : Int) < 4 := by omega
          have hul := upTo_length 4 s 1
          have hsl := shOf_length K s 1
          have cl := hl.cell (j := 1) (by omega)
          rw [upTo_nth _ _ _ _ (by omega), if_neg (by omega)] at cl
          have fl := hl.free 1
          have hl3 := hl.set_ 1 (s 1)
          rw [upTo_set] at hl3
          obtain ⟨v, hv⟩ : ∃ v, v = s 1 := ⟨_, rfl⟩
          rw [← hv] at hl3 hand
          have m1 := Mod.set1 wr (H + 1) 1 (.int .i64 (v : Nat))
          have hm1 := hm.mod m1 (by omega)
          have cm := hm1.cell (j := q) (by omega)
          have fm := hm1.free q
          obtain ⟨old, hold⟩ : ∃ old, old = nth (shOf K s 1) q := ⟨_, rfl⟩
          rw [← hold] at cm
          have hm3 := hm1.set_ q v
          rw [hv, hq, shOf_set K hK4 s 1 (by omega), ← hv, ← hq] at hm3
          have m2 := Mod.set1 (wr.setCell ⟨H + 1, 1, none⟩ (.int .i64 (v : Nat))) (H + 1 + 1) q (.int .i64 (v : Nat))
          have cl2 : (wr.setCell ⟨H + 1, 1, none⟩ (.int .i64 (v : Nat))).cell? ⟨H + 1, 1, none⟩ = some (.int .i64 (v : Nat)) := by
            have h := (hl.set_ 1 v).cell (j := 1) (by rw [List.length_set]; omega)
            rw [nth_set (by omega), if_pos rfl] at h; exact h
          have HL3 := Lib.hid (hl3.mod m2 (by omega))
          have HM3 := Lib.hid hm3
          have HA3 := Lib.hid ((hA2.mod m1 (by omega)).mod m2 (by omega))
          have HB3 := Lib.hid ((hB2.setCell (p := ⟨H + 1, 1, none⟩) (by dsimp only; omega) (.int .i64 (v : Nat))).setCell (p := ⟨H + 1 + 1, q, none⟩) (by dsimp only; omega) (.int .i64 (v : Nat)))
          clear hl hm hA2 hB2 hl3 hm3 hm1 m1 m2 hv hq hold hul hsl
          go_wp2_with fail
          go_roundw
          case rel => exact ⟨1 + 1, by omega, by rfl, HL3.out, HM3.out, HA3.out, HB3.out⟩
          case measure => simp [intOf]
        · have hand : bits .and .i64 (x2 : Int) 16383 = ((x2 % 2 ^ 14 : Nat) : Int) := i64_andp x2 14 (by omega) (by omega)
          rw [← hs2.out] at hand
          obtain ⟨q, hq⟩ : ∃ q, q = (2 + K) % 4 := ⟨_, rfl⟩
          have eq : (2 + (K : Int)) % 4 = (q : Int) := by omega
          have hq4 : q < 4 := by omega
          have hq0 : (0 : Int) ≤ (q : Int) := by omega
          have hq1 : (q : Int) < 4 := by omega
          have hul := upTo_length 4 s 2
          have hsl := shOf_length K s 2
          have cl := hl.cell (j := 2) (by omega)
          rw [upTo_nth _ _ _ _ (by omega), if_neg (by omega)] at cl
          have fl := hl.free 2
          have hl3 := hl.set_ 2 (s 2)
          rw [upTo_set] at hl3
          obtain ⟨v, hv⟩ : ∃ v, v = s 2 := ⟨_, rfl⟩
          rw [← hv] at hl3 hand
          have m1 := Mod.set1 wr (H + 1) 2 (.int .i64 (v : Nat))
          have hm1 := hm.mod m1 (by omega)
          have cm := hm1.cell (j := q) (by omega)
          have fm := hm1.free q
          obtain ⟨old, hold⟩ : ∃ old, old = nth (shOf K s 2) q := ⟨_, rfl⟩
          rw [← hold] at cm
          have hm3 := hm1.set_ q v
          rw [hv, hq, shOf_set K hK4 s 2 (by omega), ← hv, ← hq] at hm3
          have m2 := Mod.set1 (wr.setCell ⟨H + 1, 2, none⟩ (.int .i64 (v : Nat))) (H + 1 + 1) q (.int .i64 (v : Nat))
          have cl2 : (wr.setCell ⟨H + 1, 2, none⟩ (.int .i64 (v : Nat))).cell? ⟨H + 1, 2, none⟩ = some (.int .i64 (v : Nat)) := by
            have h := (hl.set_ 2 v).cell (j := 2) (by rw [List.length_set]; omega)
            rw [nth_set (by omega), if_pos rfl] at h; exact h
          have HL3 := Lib.hid (hl3.mod m2 (by omega))
          have HM3 := Lib.hid hm3
          have HA3 := Lib.hid ((hA2.mod m1 (by omega)).mod m2 (by omega))
          have HB3 := Lib.hid ((hB2.setCell (p := ⟨H + 1, 2, none⟩) (by dsimp only; omega) (.int .i64 (v : Nat))).setCell (p := ⟨H + 1 + 1, q, none⟩) (by dsimp only; omega) (.int .i64 (v : Nat)))
          clear hl hm hA2 hB2 hl3 hm3 hm1 m1 m2 hv hq hold hul hsl
          go_wp2_with fail
          go_roundw
          case rel => exact ⟨2 + 1, by omega, by rfl, HL3.out, HM3.out, HA3.out, HB3.out⟩
          case measure => simp [intOf]
        · have hand : bits .and .i64 (x3 : Int) 16383 = ((x3 % 2 ^ 14 : Nat) : Int) := i64_andp x3 14 (by omega) (by omega)
          rw [← hs3.out] at hand
          obtain ⟨q, hq⟩ : ∃ q, q = (3 + K) % 4 := ⟨_, rfl⟩
          have eq : (3 + (K : Int)) % 4 = (q : Int) := by omega
          have hq4 : q < 4 := by omega
          have hq0 : (0 : Int) ≤ (q : Int) := by omega
          have hq1 : (q : Int) < 4 := by omega
          have hul := upTo_length 4 s 3
          have hsl := shOf_length K s 3
          have cl := hl.cell (j := 3) (by omega)
          rw [upTo_nth _ _ _ _ (by omega), if_neg (by omega)] at cl
          have fl := hl.free 3
          have hl3 := hl.set_ 3 (s 3)
          rw [upTo_set] at hl3
          obtain ⟨v, hv⟩ : ∃ v, v = s 3 := ⟨_, rfl⟩
          rw [← hv] at hl3 hand
          have m1 := Mod.set1 wr (H + 1) 3 (.int .i64 (v : Nat))
          have hm1 := hm.mod m1 (by omega)
          have cm := hm1.cell (j := q) (by omega)
          have fm := hm1.free q
          obtain ⟨old, hold⟩ : ∃ old, old = nth (shOf K s 3) q := ⟨_, rfl⟩
          rw [← hold] at cm
          have hm3 := hm1.set_ q v
          rw [hv, hq, shOf_set K hK4 s 3 (by omega), ← hv, ← hq] at hm3
          have m2 := Mod.set1 (wr.setCell ⟨H + 1, 3, none⟩ (.int .i64 (v : Nat))) (H + 1 + 1) q (.int .i64 (v : Nat))
          have cl2 : (wr.setCell ⟨H + 1, 3, none⟩ (.int .i64 (v : Nat))).cell? ⟨H + 1, 3, none⟩ = some (.int .i64 (v : Nat)) := by
            have h := (hl.set_ 3 v).cell (j := 3) (by rw [List.length_set]; omega)
            rw [nth_set (by omega), if_pos rfl] at h; exact h
          have HL3 := Lib.hid (hl3.mod m2 (by omega))
          have HM3 := Lib.hid hm3
          have HA3 := Lib.hid ((hA2.mod m1 (by omega)).mod m2 (by omega))
          have HB3 := Lib.hid ((hB2.setCell (p := ⟨H + 1, 3, none⟩) (by dsimp only; omega) (.int .i64 (v : Nat))).setCell (p := ⟨H + 1 + 1, q, none⟩) (by dsimp only; omega) (.int .i64 (v : Nat)))
          clear hl hm hA2 hB2 hl3 hm3 hm1 m1 m2 hv hq hold hul hsl
          go_wp2_with fail
          go_roundw
          case rel => exact ⟨3 + 1, by omega, by rfl, HL3.out, HM3.out, HA3.out, HB3.out⟩
          case measure => simp [intOf]
        · have hrl := upTo_rd hl (Nat.le_refl 4)
          have hrm := shOf_rd hm
          have hbw : Below w.heap.size w wr := by rw [← HHF.out]; exact hB2
          have ht : ∀ i, i < 4 → tk 14 (s i) < 8 := fun i hi => tk_lt (by omega) (HSL.out i hi)
          have hby := rot_by (ht 0 (by omega)) (ht 1 (by omega)) (ht 2 (by omega)) (ht 3 (by omega)) hK4
          have hrle := rot_le (ht 0 (by omega)) (ht 1 (by omega)) (ht 2 (by omega)) (ht 3 (by omega))
          rw [sd_eq, sd_eq, sd_eq, sd_eq] at hby
          have HT1 := azTurn s 14 (by omega) HSL.out (some ⟨H + 1, 0, none⟩) 4 4 rfl wr hrl
          have HT2 := Lib.hid (fun W hW => azTurn (fun j => s ((j + 4 - K) % 4)) 14 (by omega) (fun i hi => HSL.out _ (by omega)) (some ⟨H + 1 + 1, 0, none⟩) 4 4 rfl W hW)
          have HUP := Lib.hid (fun W hW => azUpper s 14 (by omega) HSL.out (some ⟨H + 1, 0, none⟩) 4 W hW)
          have hr2 : rot (tk 14 (s ((0 + 4 - K) % 4))) (tk 14 (s ((1 + 4 - K) % 4))) (tk 14 (s ((2 + 4 - K) % 4))) (tk 14 (s ((3 + 4 - K) % 4))) = if rot (tk 14 (s 0)) (tk 14 (s 1)) (tk 14 (s 2)) (tk 14 (s 3)) = 4 then 4 else (rot (tk 14 (s 0)) (tk 14 (s 1)) (tk 14 (s 2)) (tk 14 (s 3)) + K) % 4 := by
            rw [← hby]
          have HT2' : Hid (∀ W, Rd W (some ⟨H + 1 + 1, 0, none⟩) 4 (fun j => .int .i64 (s ((j + 4 - K) % 4) : Nat)) → Calls Try.prog 18 #[.slice (some ⟨H + 1 + 1, 0, none⟩) 4 4, .int .i64 14] W (TurnPost (if rot (tk 14 (s 0)) (tk 14 (s 1)) (tk 14 (s 2)) (tk 14 (s 3)) = 4 then 4 else (rot (tk 14 (s 0)) (tk 14 (s 1)) (tk 14 (s 2)) (tk 14 (s 3)) + K) % 4) W)) := Lib.hid (by
            intro W hW; have h := HT2.out W hW; rw [hr2] at h; exact h)
          generalize rot (tk 14 (s 0)) (tk 14 (s 1)) (tk 14 (s 2)) (tk 14 (s 3)) = r at *
          have HT1 := Lib.hid HT1
          have HRL := Lib.hid hrl
          have HRM := Lib.hid hrm
          have HBW := Lib.hid hbw
          clear hl hm hA2 hB2 hrl hrm hbw ht hby hr2 HT2 a0 a1 a2 a3
          go_wp2_with fail
          refine HT1.out.mono ?_
          rintro e w2 ⟨hb2, ⟨hr, rfl⟩ | ⟨hr, rfl⟩⟩
          · have HR := Lib.hid hr
            have HB2 := Lib.hid (HBW.out.trans (hb2.mono HBW.out.size))
            have HRM2 := Lib.hid (HRM.out.below hb2)
            have HRL2 := Lib.hid (HRL.out.below hb2)
            have HT3 := HT2'.out w2 HRM2.out
            rw [if_neg (by omega)] at HT3
            obtain ⟨q, hq⟩ : ∃ q, q = (r + K) % 4 := ⟨_, rfl⟩
            have eq : ((r : Int) + (K : Int)) % 4 = (q : Int) := by omega
            have hq4 : q < 4 := by omega
            rw [← hq] at HT3
            have HT3 := Lib.hid HT3
            clear hr hb2 hq
            go_wp2_with fail
            refine HT3.out.mono ?_
            rintro e w3 ⟨hb3, ⟨hr3, rfl⟩ | ⟨hr3, rfl⟩⟩
            · have HB3 := Lib.hid (HB2.out.trans (hb3.mono HB2.out.size))
              have HU := Lib.hid (HUP.out w3 (HRL2.out.below hb3))
              have hqq : ((q : Int) == (q : Int)) = true := by simp
              clear hb3 hr3
              go_wp2_with fail
              refine HU.out.mono ?_
              rintro e w4 ⟨hb4, u, f, rfl, hf⟩
              have HB4 := Lib.hid (HB3.out.trans (hb4.mono HB3.out.size))
              clear hb4 hf
              go_wp2_with fail
              go_ret
              exact ⟨rfl, HB4.out⟩
            · omega
          · have HR := Lib.hid hr
            have HB2 := Lib.hid (HBW.out.trans (hb2.mono HBW.out.size))
            have HRM2 := Lib.hid (HRM.out.below hb2)
            have HRL2 := Lib.hid (HRL.out.below hb2)
            have HT3 := HT2'.out w2 HRM2.out
            rw [if_pos hr] at HT3
            have HT3 := Lib.hid HT3
            clear hr hb2
            go_wp2_with fail
            refine HT3.out.mono ?_
            rintro e w3 ⟨hb3, ⟨hr3, rfl⟩ | ⟨hr3, rfl⟩⟩
            · omega
            · have HB3 := Lib.hid (HB2.out.trans (hb3.mono HB2.out.size))
              have HU := Lib.hid (HUP.out w3 (HRL2.out.below hb3))
              clear hb3 hr3
              go_wp2_with fail
              refine HU.out.mono ?_
              rintro e w4 ⟨hb4, u, f, rfl, hf⟩
              have hff : f = false := hf HR.out
              subst hff
              have HB4 := Lib.hid (HB3.out.trans (hb4.mono HB3.out.size))
              clear hb4 hf
              go_wp2_with fail
              go_ret
              exact ⟨rfl, HB4.out⟩
    · simp only [eK]
      have HHF := Lib.hid hH
      clear hH
      obtain ⟨s, hs⟩ : ∃ s : Nat → Nat, s = fun i => (if i = 0 then x0 else if i = 1 then x1 else if i = 2 then x2 else x3) % 2 ^ 14 := ⟨_, rfl⟩
      have hs0 : Hid (s 0 = x0 % 2 ^ 14) := Lib.hid (by rw [hs]; rfl)
      have hs1 : Hid (s 1 = x1 % 2 ^ 14) := Lib.hid (by rw [hs]; rfl)
      have hs2 : Hid (s 2 = x2 % 2 ^ 14) := Lib.hid (by rw [hs]; rfl)
      have hs3 : Hid (s 3 = x3 % 2 ^ 14) := Lib.hid (by rw [hs]; rfl)
      have HSL : Hid (∀ i, i < 4 → s i < 2 ^ 14) := Lib.hid (fun i _ => by rw [hs]; exact Nat.mod_lt _ (Nat.two_pow_pos 14))
      have hl0 : IA W3 3 (H + 1 + 1) (upTo 4 s 0) := by rw [upTo_zero]; exact hI2
      have hm0 : IA W3 3 (H + 1) (shOf K s 0) := by rw [shOf_zero]; exact hI1
      clear hs hI1 hI2
      go_loopw [11] (fun i wr => ∃ k : Nat, k ≤ 4 ∧ i = .int .i64 k ∧ IA wr 3 (H + 1 + 1) (upTo 4 s k) ∧ IA wr 3 (H + 1) (shOf K s k) ∧ Arr wr 34 H [.int .u16 x0, .int .u16 x1, .int .u16 x2, .int .u16 x3] ∧ Below H w wr) (fun i _ => 4 - (intOf i).toNat)
      case atStart => exact ⟨0, by omega, rfl, hl0, hm0, hA, hB⟩
      case round =>
        obtain ⟨k, hk, rfl, hl, hm, hA2, hB2⟩ := hrel
        clear hl0 hm0 hA hB
        have hkk : k = 0 ∨ k = 1 ∨ k = 2 ∨ k = 3 ∨ k = 4 := by omega
        have a0 := hA2.cell? 0
        have a1 := hA2.cell? 1
        have a2 := hA2.cell? 2
        have a3 := hA2.cell? 3
        simp only [List.getElem?_cons_zero, List.getElem?_cons_succ] at a0 a1 a2 a3
        rcases hkk with rfl | rfl | rfl | rfl | rfl
        · have hand : bits .and .i64 (x0 : Int) 16383 = ((x0 % 2 ^ 14 : Nat) : Int) := i64_andp x0 14 (by omega) (by omega)
          rw [← hs0.out] at hand
          obtain ⟨q, hq⟩ : ∃ q, q = (0 + K) % 4 := ⟨_, rfl⟩
          have eq : (K : Int) % 4 = (q : Int) := by omega
          have hq4 : q < 4 := by omega
          have hq0 : (0 : Int) ≤ (q : Int) := by omega
          have hq1 : (q : Int) < 4 := by omega
          have hul := upTo_length 4 s 0
          have hsl := shOf_length K s 0
          have cl := hl.cell (j := 0) (by omega)
          rw [upTo_nth _ _ _ _ (by omega), if_neg (by omega)] at cl
          have fl := hl.free 0
          have hl3 := hl.set_ 0 (s 0)
          rw [upTo_set] at hl3
          obtain ⟨v, hv⟩ : ∃ v, v = s 0 := ⟨_, rfl⟩
          rw [← hv] at hl3 hand
          have m1 := Mod.set1 wr (H + 1 + 1) 0 (.int .i64 (v : Nat))
          have hm1 := hm.mod m1 (by omega)
          have cm := hm1.cell (j := q) (by omega)
          have fm := hm1.free q
          obtain ⟨old, hold⟩ : ∃ old, old = nth (shOf K s 0) q := ⟨_, rfl⟩
          rw [← hold] at cm
          have hm3 := hm1.set_ q v
          rw [hv, hq, shOf_set K hK4 s 0 (by omega), ← hv, ← hq] at hm3
          have m2 := Mod.set1 (wr.setCell ⟨H + 1 + 1, 0, none⟩ (.int .i64 (v : Nat))) (H + 1) q (.int .i64 (v : Nat))
          have cl2 : (wr.setCell ⟨H + 1 + 1, 0, none⟩ (.int .i64 (v : Nat))).cell? ⟨H + 1 + 1, 0, none⟩ = some (.int .i64 (v : Nat)) := by
            have h := (hl.set_ 0 v).cell (j := 0) (by rw [List.length_set]; omega)
            rw [nth_set (by omega), if_pos rfl] at h; exact h
          have HL3 := Lib.hid (hl3.mod m2 (by omega))
          have HM3 := Lib.hid hm3
          have HA3 := Lib.hid ((hA2.mod m1 (by omega)).mod m2 (by omega))
          have HB3 := Lib.hid ((hB2.setCell (p := ⟨H + 1 + 1, 0, none⟩) (by dsimp only; omega) (.int .i64 (v : Nat))).setCell (p := ⟨H + 1, q, none⟩) (by dsimp only; omega) (.int .i64 (v : Nat)))
          clear hl hm hA2 hB2 hl3 hm3 hm1 m1 m2 hv hq hold hul hsl
          go_wp2_with fail
          go_roundw
          case rel => exact ⟨0 + 1, by omega, by rfl, HL3.out, HM3.out, HA3.out, HB3.out⟩
          case measure => simp [intOf]
        · have hand : bits .and .i64 (x1 : Int) 16383 = ((x1 % 2 ^ 14 : Nat) : Int) := i64_andp x1 14 (by omega) (by omega)
          rw [← hs1.out] at hand
          obtain ⟨q, hq⟩ : ∃ q, q = (1 + K) % 4 := ⟨_, rfl⟩
          have eq : (1 + (K : Int)) % 4 = (q : Int) := by omega
          have hq4 : q < 4 := by omega
          have hq0 : (0 : Int) ≤ (q : Int) := by omega
          have hq1 : (q : Int) < 4 := by omega
          have hul := upTo_length 4 s 1
          have hsl := shOf_length K s 1
          have cl := hl.cell (j := 1) (by omega)
          rw [upTo_nth _ _ _ _ (by omega), if_neg (by omega)] at cl
          have fl := hl.free 1
          have hl3 := hl.set_ 1 (s 1)
          rw [upTo_set] at hl3
          obtain ⟨v, hv⟩ : ∃ v, v = s 1 := ⟨_, rfl⟩
          rw [← hv] at hl3 hand
          have m1 := Mod.set1 wr (H + 1 + 1) 1 (.int .i64 (v : Nat))
          have hm1 := hm.mod m1 (by omega)
          have cm := hm1.cell (j := q) (by omega)
          have fm := hm1.free q
          obtain ⟨old, hold⟩ : ∃ old, old = nth (shOf K s 1) q := ⟨_, rfl⟩
          rw [← hold] at cm
          have hm3 := hm1.set_ q v
          rw [hv, hq, shOf_set K hK4 s 1 (by omega), ← hv, ← hq] at hm3
          have m2 := Mod.set1 (wr.setCell ⟨H + 1 + 1, 1, none⟩ (.int .i64 (v : Nat))) (H + 1) q (.int .i64 (v : Nat))
          have cl2 : (wr.setCell ⟨H + 1 + 1, 1, none⟩ (.int .i64 (v : Nat))).cell? ⟨H + 1 + 1, 1, none⟩ = some (.int .i64 (v : Nat)) := by
            have h := (hl.set_ 1 v).cell (j := 1) (by rw [List.length_set]; omega)
            rw [nth_set (by omega), if_pos rfl] at h; exact h
          have HL3 := Lib.hid (hl3.mod m2 (by omega))
          have HM3 := Lib.hid hm3
          have HA3 := Lib.hid ((hA2.mod m1 (by omega)).mod m2 (by omega))
          have HB3 := Lib.hid ((hB2.setCell (p := ⟨H + 1 + 1, 1, none⟩) (by dsimp only; omega) (.int .i64 (v : Nat))).setCell (p := ⟨H + 1, q, none⟩) (by dsimp only; omega) (.int .i64 (v : Nat)))
          clear hl hm hA2 hB2 hl3 hm3 hm1 m1 m2 hv hq hold hul hsl
          go_wp2_with fail
          go_roundw
          case rel => exact ⟨1 + 1, by omega, by rfl, HL3.out, HM3.out, HA3.out, HB3.out⟩
          case measure => simp [intOf]
        · have hand : bits .and .i64 (x2 : Int) 16383 = ((x2 % 2 ^ 14 : Nat) : Int) := i64_andp x2 14 (by omega) (by omega)
          rw [← hs2.out] at hand
          obtain ⟨q, hq⟩ : ∃ q, q = (2 + K) % 4 := ⟨_, rfl⟩
          have eq : (2 + (K : Int)) % 4 = (q : Int) := by omega
          have hq4 : q < 4 := by omega
          have hq0 : (0 : Int) ≤ (q : Int) := by omega
          have hq1 : (q : Int) < 4 := by omega
          have hul := upTo_length 4 s 2
          have hsl := shOf_length K s 2
          have cl := hl.cell (j := 2) (by omega)
          rw [upTo_nth _ _ _ _ (by omega), if_neg (by omega)] at cl
          have fl := hl.free 2
          have hl3 := hl.set_ 2 (s 2)
          rw [upTo_set] at hl3
          obtain ⟨v, hv⟩ : ∃ v, v = s 2 := ⟨_, rfl⟩
          rw [← hv] at hl3 hand
          have m1 := Mod.set1 wr (H + 1 + 1) 2 (.int .i64 (v : Nat))
          have hm1 := hm.mod m1 (by omega)
          have cm := hm1.cell (j := q) (by omega)
          have fm := hm1.free q
          obtain ⟨old, hold⟩ : ∃ old, old = nth (shOf K s 2) q := ⟨_, rfl⟩
          rw [← hold] at cm
          have hm3 := hm1.set_ q v
          rw [hv, hq, shOf_set K hK4 s 2 (by omega), ← hv, ← hq] at hm3
          have m2 := Mod.set1 (wr.setCell ⟨H + 1 + 1, 2, none⟩ (.int .i64 (v : Nat))) (H + 1) q (.int .i64 (v : Nat))
          have cl2 : (wr.setCell ⟨H + 1 + 1, 2, none⟩ (.int .i64 (v : Nat))).cell? ⟨H + 1 + 1, 2, none⟩ = some (.int .i64 (v : Nat)) := by
            have h := (hl.set_ 2 v).cell (j := 2) (by rw [List.length_set]; omega)
            rw [nth_set (by omega), if_pos rfl] at h; exact h
          have HL3 := Lib.hid (hl3.mod m2 (by omega))
          have HM3 := Lib.hid hm3
          have HA3 := Lib.hid ((hA2.mod m1 (by omega)).mod m2 (by omega))
          have HB3 := Lib.hid ((hB2.setCell (p := ⟨H + 1 + 1, 2, none⟩) (by dsimp only; omega) (.int .i64 (v : Nat))).setCell (p := ⟨H + 1, q, none⟩) (by dsimp only; omega) (.int .i64 (v : Nat)))
          clear hl hm hA2 hB2 hl3 hm3 hm1 m1 m2 hv hq hold hul hsl
          go_wp2_with fail
          go_roundw
          case rel => exact ⟨2 + 1, by omega, by rfl, HL3.out, HM3.out, HA3.out, HB3.out⟩
          case measure => simp [intOf]
        · have hand : bits .and .i64 (x3 : Int) 16383 = ((x3 % 2 ^ 14 : Nat) : Int) := i64_andp x3 14 (by omega) (by omega)
          rw [← hs3.out] at hand
          obtain ⟨q, hq⟩ : ∃ q, q = (3 + K) % 4 := ⟨_, rfl⟩
          have eq : (3 + (K : Int)) % 4 = (q : Int) := by omega
          have hq4 : q < 4 := by omega
          have hq0 : (0 : Int) ≤ (q : Int) := by omega
          have hq1 : (q : Int) < 4 := by omega
          have hul := upTo_length 4 s 3
          have hsl := shOf_length K s 3
          have cl := hl.cell (j := 3) (by omega)
          rw [upTo_nth _ _ _ _ (by omega), if_neg (by omega)] at cl
          have fl := hl.free 3
          have hl3 := hl.set_ 3 (s 3)
          rw [upTo_set] at hl3
          obtain ⟨v, hv⟩ : ∃ v, v = s 3 := ⟨_, rfl⟩
          rw [← hv] at hl3 hand
          have m1 := Mod.set1 wr (H + 1 + 1) 3 (.int .i64 (v : Nat))
          have hm1 := hm.mod m1 (by omega)
          have cm := hm1.cell (j := q) (by omega)
          have fm := hm1.free q
          obtain ⟨old, hold⟩ : ∃ old, old = nth (shOf K s 3) q := ⟨_, rfl⟩
          rw [← hold] at cm
          have hm3 := hm1.set_ q v
          rw [hv, hq, shOf_set K hK4 s 3 (by omega), ← hv, ← hq] at hm3
          have m2 := Mod.set1 (wr.setCell ⟨H + 1 + 1, 3, none⟩ (.int .i64 (v : Nat))) (H + 1) q (.int .i64 (v : Nat))
          have cl2 : (wr.setCell ⟨H + 1 + 1, 3, none⟩ (.int .i64 (v : Nat))).cell? ⟨H + 1 + 1, 3, none⟩ = some (.int .i64 (v : Nat)) := by
            have h := (hl.set_ 3 v).cell (j := 3) (by rw [List.length_set]; omega)
            rw [nth_set (by omega), if_pos rfl] at h; exact h
          have HL3 := Lib.hid (hl3.mod m2 (by omega))
          have HM3 := Lib.hid hm3
          have HA3 := Lib.hid ((hA2.mod m1 (by omega)).mod m2 (by omega))
          have HB3 := Lib.hid ((hB2.setCell (p := ⟨H + 1 + 1, 3, none⟩) (by dsimp only; omega) (.int .i64 (v : Nat))).setCell (p := ⟨H + 1, q, none⟩) (by dsimp only; omega) (.int .i64 (v : Nat)))
          clear hl hm hA2 hB2 hl3 hm3 hm1 m1 m2 hv hq hold hul hsl
          go_wp2_with fail
          go_roundw
          case rel => exact ⟨3 + 1, by omega, by rfl, HL3.out, HM3.out, HA3.out, HB3.out⟩
          case measure => simp [intOf]
        · have hrl := upTo_rd hl (Nat.le_refl 4)
          have hrm := shOf_rd hm
          have hbw : Below w.heap.size w wr := by rw [← HHF.out]; exact hB2
          have ht : ∀ i, i < 4 → tk 14 (s i) < 8 := fun i hi => tk_lt (by omega) (HSL.out i hi)
          have hby := rot_by (ht 0 (by omega)) (ht 1 (by omega)) (ht 2 (by omega)) (ht 3 (by omega)) hK4
          have hrle := rot_le (ht 0 (by omega)) (ht 1 (by omega)) (ht 2 (by omega)) (ht 3 (by omega))
          rw [sd_eq, sd_eq, sd_eq, sd_eq] at hby
          have HT1 := azTurn s 14 (by omega) HSL.out (some ⟨H + 1 + 1, 0, none⟩) 4 4 rfl wr hrl
          have HT2 := Lib.hid (fun W hW => azTurn (fun j => s ((j + 4 - K) % 4)) 14 (by omega) (fun i hi => HSL.out _ (by omega)) (some ⟨H + 1, 0, none⟩) 4 4 rfl W hW)
          have HUP := Lib.hid (fun W hW => azUpper s 14 (by omega) HSL.out (some ⟨H + 1 + 1, 0, none⟩) 4 W hW)
          have hr2 : rot (tk 14 (s ((0 + 4 - K) % 4))) (tk 14 (s ((1 + 4 - K) % 4))) (tk 14 (s ((2 + 4 - K) % 4))) (tk 14 (s ((3 + 4 - K) % 4))) = if rot (tk 14 (s 0)) (tk 14 (s 1)) (tk 14 (s 2)) (tk 14 (s 3)) = 4 then 4 else (rot (tk 14 (s 0)) (tk 14 (s 1)) (tk 14 (s 2)) (tk 14 (s 3)) + K) % 4 := by
            rw [← hby]
          have HT2' : Hid (∀ W, Rd W (some ⟨H + 1, 0, none⟩) 4 (fun j => .int .i64 (s ((j + 4 - K) % 4) : Nat)) → Calls Try.prog 18 #[.slice (some ⟨H + 1, 0, none⟩) 4 4, .int .i64 14] W (TurnPost (if rot (tk 14 (s 0)) (tk 14 (s 1)) (tk 14 (s 2)) (tk 14 (s 3)) = 4 then 4 else (rot (tk 14 (s 0)) (tk 14 (s 1)) (tk 14 (s 2)) (tk 14 (s 3)) + K) % 4) W)) := Lib.hid (by
            intro W hW; have h := HT2.out W hW; rw [hr2] at h; exact h)
          generalize rot (tk 14 (s 0)) (tk 14 (s 1)) (tk 14 (s 2)) (tk 14 (s 3)) = r at *
          have HT1 := Lib.hid HT1
          have HRL := Lib.hid hrl
          have HRM := Lib.hid hrm
          have HBW := Lib.hid hbw
          clear hl hm hA2 hB2 hrl hrm hbw ht hby hr2 HT2 a0 a1 a2 a3
          go_wp2_with fail
          refine HT1.out.mono ?_
          rintro e w2 ⟨hb2, ⟨hr, rfl⟩ | ⟨hr, rfl⟩⟩
          · have HR := Lib.hid hr
            have HB2 := Lib.hid (HBW.out.trans (hb2.mono HBW.out.size))
            have HRM2 := Lib.hid (HRM.out.below hb2)
            have HRL2 := Lib.hid (HRL.out.below hb2)
            have HT3 := HT2'.out w2 HRM2.out
            rw [if_neg (by omega)] at HT3
            obtain ⟨q, hq⟩ : ∃ q, q = (r + K) % 4 := ⟨_, rfl⟩
            have eq : ((r : Int) + (K : Int)) % 4 = (q : Int) := by omega
            have hq4 : q < 4 := by omega
            rw [← hq] at HT3
            have HT3 := Lib.hid HT3
            clear hr hb2 hq
            go_wp2_with fail
            refine HT3.out.mono ?_
            rintro e w3 ⟨hb3, ⟨hr3, rfl⟩ | ⟨hr3, rfl⟩⟩
            · have HB3 := Lib.hid (HB2.out.trans (hb3.mono HB2.out.size))
              have HU := Lib.hid (HUP.out w3 (HRL2.out.below hb3))
              have hqq : ((q : Int) == (q : Int)) = true := by simp
              clear hb3 hr3
              go_wp2_with fail
              refine HU.out.mono ?_
              rintro e w4 ⟨hb4, u, f, rfl, hf⟩
              have HB4 := Lib.hid (HB3.out.trans (hb4.mono HB3.out.size))
              clear hb4 hf
              go_wp2_with fail
              go_ret
              exact ⟨rfl, HB4.out⟩
            · omega
          · have HR := Lib.hid hr
            have HB2 := Lib.hid (HBW.out.trans (hb2.mono HBW.out.size))
            have HRM2 := Lib.hid (HRM.out.below hb2)
            have HRL2 := Lib.hid (HRL.out.below hb2)
            have HT3 := HT2'.out w2 HRM2.out
            rw [if_pos hr] at HT3
            have HT3 := Lib.hid HT3
            clear hr hb2
            go_wp2_with fail
            refine HT3.out.mono ?_
            rintro e w3 ⟨hb3, ⟨hr3, rfl⟩ | ⟨hr3, rfl⟩⟩
            · omega
            · have HB3 := Lib.hid (HB2.out.trans (hb3.mono HB2.out.size))
              have HU := Lib.hid (HUP.out w3 (HRL2.out.below hb3))
              clear hb3 hr3
              go_wp2_with fail
              refine HU.out.mono ?_
              rintro e w4 ⟨hb4, u, f, rfl, hf⟩
              have hff : f = false := hf HR.out
              subst hff
              have HB4 := Lib.hid (HB3.out.trans (hb4.mono HB3.out.size))
              clear hb4 hf
              go_wp2_with fail
              go_ret
              exact ⟨rfl, HB4.out⟩
end Go.Proofs.Ytpgkbhlgechpmaa
