/-
  OnesCount16, getRotation, Rotation, AZTurn, walked. No condition beyond the bounds that each theorem states.
-/
import Derived.Test.YtpgkbhlgechpmaaNF
import Derived.Test.YtpgkbhlgechpmaaAZT
import Derived.Deep.QuietTactic
import Derived.BigQuiet
import Derived.Deep.DeepCutAuto
import Derived.Lib.BitFns
namespace Go.Proofs.Ytpgkbhlgechpmaa
open Go.RowKit Go.Qz Go.Qz.AZ
set_option linter.unusedVariables false

theorem u16_and_255 (x : Nat) (hx : x < 65536) : bits .and .u16 (x : Int) 255 = ((x % 256 : Nat) : Int) := by
  have h1 : x &&& 255 = x % 256 := Nat.and_two_pow_sub_one_eq_mod x 8
  show IntKind.u16.wrap ((BitVec.ofInt 16 (x : Int) &&& BitVec.ofInt 16 (255 : Int)).toNat : Int) = _
  have e1 : (BitVec.ofInt 16 (x : Int)).toNat = x := by rw [BitVec.ofInt_natCast, BitVec.toNat_ofNat]; exact Nat.mod_eq_of_lt (by omega)
  have e2 : (BitVec.ofInt 16 (255 : Int)).toNat = 255 := by decide
  rw [BitVec.toNat_and, e1, e2, h1]
  simp [IntKind.wrap, IntKind.bits, IntKind.signed]
  omega
theorem pop8_pc : ∀ n : Fin 256, Lib.pop8 (n.val : Int) = (pc 8 n.val : Int) ∧ pc 8 n.val ≤ 8 := by decide +kernel
theorem pc_split (x : Nat) : pc 16 x = pc 8 (x / 256) + pc 8 (x % 256) := by
  simp only [pc]; omega

set_option maxRecDepth 100000 in
set_option maxHeartbeats 1600000 in
theorem onesCount (x : Nat) (hx : x < 65536) (w : World) :
    Calls Try.prog 53 #[.int .u16 x] w fun e w' => e = .returned (.int .i64 (pc 16 x : Nat)) ∧ ∃ n, w' = w.drewN n := by
  obtain ⟨y, hy⟩ : ∃ y, y = x / 256 := ⟨_, rfl⟩
  have ey : (x : Int) / 256 = (y : Int) := by omega
  have hy0 : (0 : Int) ≤ (y : Int) := by omega
  have hy1 : (y : Int) ≤ 255 := by omega
  obtain ⟨z, hz⟩ : ∃ z, z = x % 256 := ⟨_, rfl⟩
  have hz0 : (0 : Int) ≤ (z : Int) := by omega
  have hz1 : (z : Int) ≤ 255 := by omega
  have ez : bits .and .u16 (x : Int) 255 = (z : Int) := by rw [hz]; exact u16_and_255 x hx
  obtain ⟨py, hpy⟩ : ∃ p, p = pc 8 y := ⟨_, rfl⟩
  obtain ⟨pz, hpz⟩ : ∃ p, p = pc 8 z := ⟨_, rfl⟩
  have epy : Lib.pop8 (y : Int) = (py : Int) := by rw [hpy]; exact (pop8_pc ⟨y, by omega⟩).1
  have epz : Lib.pop8 (z : Int) = (pz : Int) := by rw [hpz]; exact (pop8_pc ⟨z, by omega⟩).1
  have lpy : py ≤ 8 := by rw [hpy]; exact (pop8_pc ⟨y, by omega⟩).2
  have lpz : pz ≤ 8 := by rw [hpz]; exact (pop8_pc ⟨z, by omega⟩).2
  have HE : Hid (pc 16 x = py + pz) := Lib.hid (by rw [pc_split, hpy, hpz, hy, hz])
  clear hy hz hpy hpz
  go_enter Try.func53, Try.ntmps53
  go_wp2_with fail
  refine wp_region_quiet_lit (by kernel_rfl) (by kernel_rfl) ?_
  simp only [List.append_eq, List.cons_append, List.nil_append, Lib.fold_pop8tab]
  repeat (go_big_quiet_step (fail))
  refine wpQuiet_nil ?_
  rintro w' ⟨n, rfl⟩
  go_wp2_with fail
  go_ret
  exact ⟨by rw [HE.out]; rfl, n, rfl⟩

/-- The marks read so far. -/
def cbits (len : Nat) (s : Nat → Nat) : Nat → Nat
  | 0 => 0
  | k + 1 => cbits len s k * 8 + tk len (s k)
theorem tk_lt {len x : Nat} (hlen : len = 10 ∨ len = 14) (hx : x < 2 ^ len) : tk len x < 8 := by
  unfold tk
  rcases hlen with rfl | rfl
  · simp at *; omega
  · simp at *; omega
theorem cbits_lt {len : Nat} {s : Nat → Nat} (h : ∀ i, i < 4 → tk len (s i) < 8) : ∀ k, k ≤ 4 → cbits len s k < 8 ^ k
  | 0, _ => by simp [cbits]
  | k + 1, hk => by
    have := cbits_lt h k (by omega)
    have := h k (by omega)
    simp only [cbits]
    rw [Nat.pow_succ]; omega
theorem i64_and1 (x : Nat) (hx : x < 1000000) : bits .and .i64 (x : Int) 1 = ((x % 2 : Nat) : Int) := by
  have := i64_and x 1 (by omega) (by omega)
  rw [Nat.and_one_is_mod] at this
  exact this

set_option maxRecDepth 100000 in
set_option maxHeartbeats 1600000 in
theorem expectedCorners (w : World) :
    Calls Try.prog 54 #[] w fun e w' => e = .returned (.slice (some ⟨w.heap.size, 0, none⟩) 4 4) ∧ w' = w.alloc (.cells #[.int .i64 3808, .int .i64 476, .int .i64 2107, .int .i64 1799] 3) := by
  go_enter Try.func54, Try.ntmps54
  go_wp2_with fail
  go_ret
  exact ⟨rfl, rfl⟩

theorem rotFrom_no {c f s : Nat} (h : ¬ pc 16 (c ^^^ mk4 s) ≤ 2) : rotFrom c (f + 1) s = rotFrom c f (s + 1) := by rw [rotFrom, if_neg h]
theorem rotFrom_yes {c f s : Nat} (h : pc 16 (c ^^^ mk4 s) ≤ 2) : rotFrom c (f + 1) s = s := by rw [rotFrom, if_pos h]
/-- What a turn is told by. -/
def RotPost (r : Nat) (w : World) (e : Ending) (w' : World) : Prop := Below w.heap.size w w' ∧
  (r < 4 ∧ e = .returned (.tuple #[.int .i64 r, .nilIface]) ∨ r = 4 ∧ ∃ x, e = .returned (.tuple #[.int .i64 0, .iface 104 x]))

set_option maxRecDepth 100000 in
set_option maxHeartbeats 3200000 in
theorem getRot (s : Nat → Nat) (len : Nat) (hlen : len = 10 ∨ len = 14) (hs : ∀ i, i < 4 → s i < 2 ^ len) (A : Option Addr) (c : Nat) (w : World) (h : Rd w A 4 (fun j => .int .i64 (s j : Nat))) :
    Calls Try.prog 44 #[.slice A 4 c, .int .i64 len] w (RotPost (rot (tk len (s 0)) (tk len (s 1)) (tk len (s 2)) (tk len (s 3))) w) := by
  obtain ⟨ab, ao, rfl, hal, hac⟩ := h (by omega)
  dsimp only at hac
  have HC := Lib.hid hac
  have htl : ∀ i, i < 4 → tk len (s i) < 8 := fun i hi => tk_lt hlen (hs i hi)
  have HT := Lib.hid htl
  have HS := Lib.hid hs
  have HCB := Lib.hid (cbits_lt htl)
  have h00 : Hid (cbits len s 0 = 0) := Lib.hid rfl
  clear h hac htl hs
  go_enter Try.func44, Try.ntmps44
  go_wp2_with fail
  go_loop [6, 13] (fun t i => ∃ k C : Nat, k ≤ 4 ∧ i = .int .i64 k ∧ t = .int .i64 C ∧ Hid (cbits len s k = C)) (fun _ i => 4 - (intOf i).toNat)
  case atStart => exact ⟨0, 0, by omega, rfl, rfl, h00⟩
  case round =>
    obtain ⟨k, C, hk, rfl, rfl, HK⟩ := hrel
    clear h00
    by_cases hlt : k < 4
    · have hck := HC.out k hlt
      have hsk := HS.out k hlt
      have htk := HT.out k hlt
      have hCl : C < 512 := by
        have h1 := HCB.out k (by omega)
        rw [HK.out] at h1
        have h2 : 8 ^ k ≤ 8 ^ 3 := Nat.pow_le_pow_right (by omega) (by omega)
        omega
      obtain ⟨t, ht⟩ : ∃ t, t = tk len (s k) := ⟨_, rfl⟩
      have HN : Hid (cbits len s (k + 1) = C * 8 + t) := Lib.hid (by simp only [cbits]; rw [HK.out, ← ht])
      rw [← ht] at htk
      obtain ⟨x, hx⟩ : ∃ x, x = s k := ⟨_, rfl⟩
      rw [← hx] at hck hsk ht
      have hk1 : (k : Int) < 4 := by omega
      rcases hlen with rfl | rfl
      · have hxl : x < 1024 := hsk
        have hand := i64_and1 x (by omega)
        have et : (x : Int) / 256 * 2 + ((x % 2 : Nat) : Int) = (t : Int) := by rw [ht]; unfold tk; simp
        obtain ⟨m, hm⟩ : ∃ m, m = x % 2 := ⟨_, rfl⟩
        rw [← hm] at hand et
        have hm2 : m < 2 := by omega
        clear hx ht hm hsk HK
        go_wp2_with fail
        go_round
        case rel => exact ⟨k + 1, C * 8 + t, by omega, by go_num, by go_num, HN⟩
        case measure => simp [intOf]; omega
      · have hxl : x < 16384 := hsk
        have hand := i64_and1 x (by omega)
        have et : (x : Int) / 4096 * 2 + ((x % 2 : Nat) : Int) = (t : Int) := by rw [ht]; unfold tk; simp
        obtain ⟨m, hm⟩ : ∃ m, m = x % 2 := ⟨_, rfl⟩
        rw [← hm] at hand et
        have hm2 : m < 2 := by omega
        clear hx ht hm hsk HK
        go_wp2_with fail
        go_round
        case rel => exact ⟨k + 1, C * 8 + t, by omega, by go_num, by go_num, HN⟩
        case measure => simp [intOf]; omega
    · obtain rfl : k = 4 := by omega
      have hCl : C < 4096 := by have h1 := HCB.out 4 (by omega); rw [HK.out] at h1; omega
      have HCC : Hid (C = cor (tk len (s 0)) (tk len (s 1)) (tk len (s 2)) (tk len (s 3))) := Lib.hid (by rw [← HK.out]; simp only [cbits, cor]; omega)
      have hand := i64_and1 C (by omega)
      obtain ⟨D, hD⟩ : ∃ D, D = turned C := ⟨_, rfl⟩
      have eD : ((C % 2 : Nat) : Int) * 2048 + (C : Int) / 2 = (D : Int) := by rw [hD]; unfold turned; simp
      have hDl : D < 4096 := by rw [hD]; unfold turned; omega
      obtain ⟨m, hm⟩ : ∃ m, m = C % 2 := ⟨_, rfl⟩
      rw [← hm] at hand eD
      have hm2 : m < 2 := by omega
      have HD := Lib.hid hD
      clear hD hm hlt hk HK
      go_wp2_with fail
      have hr4 : Hid (rotFrom D 4 0 = rotFrom D (4 - 0) 0) := Lib.hid rfl
      go_loopw [10] (fun i wr => ∃ k : Nat, k ≤ 4 ∧ i = .int .i64 k ∧ Below w.heap.size w wr ∧ Hid (rotFrom D 4 0 = rotFrom D (4 - k) k)) (fun i _ => 4 - (intOf i).toNat)
      case atStart => exact ⟨0, by omega, rfl, Below.refl _ _, hr4⟩
      case round =>
        obtain ⟨k, hk, rfl, hbel, HR⟩ := hrel
        clear hr4
        have HRT : Hid (rot (tk len (s 0)) (tk len (s 1)) (tk len (s 2)) (tk len (s 3)) = rotFrom D (4 - k) k) := Lib.hid (by rw [← HR.out, HD.out, HCC.out]; rfl)
        have HBEL := Lib.hid hbel
        clear hbel
        have hkk : k = 0 ∨ k = 1 ∨ k = 2 ∨ k = 3 ∨ k = 4 := by omega
        rcases hkk with rfl | rfl | rfl | rfl | rfl
        · have hxor : bits .xor .i64 (D : Int) 3808 = ((D ^^^ 3808 : Nat) : Int) := i64_xor D 3808 (by omega) (by omega)
          have hxl : D ^^^ 3808 < 2 ^ 12 := Nat.xor_lt_two_pow hDl (by omega)
          obtain ⟨x, hx⟩ : ∃ x, x = D ^^^ 3808 := ⟨_, rfl⟩
          rw [← hx] at hxor hxl
          have hx2 : x < 65536 := by omega
          obtain ⟨p, hp⟩ : ∃ p, p = pc 16 x := ⟨_, rfl⟩
          have HP : Hid (p = pc 16 (D ^^^ mk4 0)) := Lib.hid (by rw [hp, hx]; rfl)
          have HO := Lib.hid (fun W => onesCount x hx2 W)
          rw [← hp] at HO
          have hB1 : Below w.heap.size w (wr.alloc (.cells #[.int .i64 3808, .int .i64 476, .int .i64 2107, .int .i64 1799] 3)) := HBEL.out.alloc HBEL.out.size _
          have HB1 := Lib.hid hB1
          clear hx hp hB1
          by_cases h2 : p ≤ 2
          · have h3 : (p : Int) ≤ 2 := by omega
            have HF : Hid (rotFrom D (4 - 0) 0 = 0) := Lib.hid (rotFrom_yes (c := D) (f := 3) (s := 0) (by rw [← HP.out]; exact h2))
            go_wp2_with fail
            refine (expectedCorners _).mono ?_
            rintro e w1 ⟨rfl, rfl⟩
            go_wp2_with fail
            refine (HO.out _).mono ?_
            rintro e w1 ⟨rfl, n, rfl⟩
            go_wp2_with fail
            go_ret2
            exact ⟨below_drewN HB1.out _, .inl ⟨by rw [HRT.out, HF.out]; omega, by rw [HRT.out, HF.out]; rfl⟩⟩
          · have h3 : decide ((p : Int) ≤ 2) = false := by simp; omega
            have h4 : (2 : Int) < (p : Int) := by omega
            have HF : Hid (rotFrom D 4 0 = rotFrom D (4 - (0 + 1)) (0 + 1)) := Lib.hid (HR.out.trans (rotFrom_no (c := D) (f := 3) (s := 0) (by rw [← HP.out]; exact h2)))
            go_wp2_with fail
            refine (expectedCorners _).mono ?_
            rintro e w1 ⟨rfl, rfl⟩
            go_wp2_with fail
            refine (HO.out _).mono ?_
            rintro e w1 ⟨rfl, n, rfl⟩
            go_wp2_with fail
            go_roundw
            case rel => exact ⟨0 + 1, by omega, by rfl, below_drewN HB1.out _, HF⟩
            case measure => simp [intOf]
        · have hxor : bits .xor .i64 (D : Int) 476 = ((D ^^^ 476 : Nat) : Int) := i64_xor D 476 (by omega) (by omega)
          have hxl : D ^^^ 476 < 2 ^ 12 := Nat.xor_lt_two_pow hDl (by omega)
          obtain ⟨x, hx⟩ : ∃ x, x = D ^^^ 476 := ⟨_, rfl⟩
          rw [← hx] at hxor hxl
          have hx2 : x < 65536 := by omega
          obtain ⟨p, hp⟩ : ∃ p, p = pc 16 x := ⟨_, rfl⟩
          have HP : Hid (p = pc 16 (D ^^^ mk4 1)) := Lib.hid (by rw [hp, hx]; rfl)
          have HO := Lib.hid (fun W => onesCount x hx2 W)
          rw [← hp] at HO
          have hB1 : Below w.heap.size w (wr.alloc (.cells #[.int .i64 3808, .int .i64 476, .int .i64 2107, .int .i64 1799] 3)) := HBEL.out.alloc HBEL.out.size _
          have HB1 := Lib.hid hB1
          clear hx hp hB1
          by_cases h2 : p ≤ 2
          · have h3 : (p : Int) ≤ 2 := by omega
            have HF : Hid (rotFrom D (4 - 1) 1 = 1) := Lib.hid (rotFrom_yes (c := D) (f := 2) (s := 1) (by rw [← HP.out]; exact h2))
            go_wp2_with fail
            refine (expectedCorners _).mono ?_
            rintro e w1 ⟨rfl, rfl⟩
            go_wp2_with fail
            refine (HO.out _).mono ?_
            rintro e w1 ⟨rfl, n, rfl⟩
            go_wp2_with fail
            go_ret2
            exact ⟨below_drewN HB1.out _, .inl ⟨by rw [HRT.out, HF.out]; omega, by rw [HRT.out, HF.out]; rfl⟩⟩
          · have h3 : decide ((p : Int) ≤ 2) = false := by simp; omega
            have h4 : (2 : Int) < (p : Int) := by omega
            have HF : Hid (rotFrom D 4 0 = rotFrom D (4 - (1 + 1)) (1 + 1)) := Lib.hid (HR.out.trans (rotFrom_no (c := D) (f := 2) (s := 1) (by rw [← HP.out]; exact h2)))
            go_wp2_with fail
            refine (expectedCorners _).mono ?_
            rintro e w1 ⟨rfl, rfl⟩
            go_wp2_with fail
            refine (HO.out _).mono ?_
            rintro e w1 ⟨rfl, n, rfl⟩
            go_wp2_with fail
            go_roundw
            case rel => exact ⟨1 + 1, by omega, by rfl, below_drewN HB1.out _, HF⟩
            case measure => simp [intOf]
        · have hxor : bits .xor .i64 (D : Int) 2107 = ((D ^^^ 2107 : Nat) : Int) := i64_xor D 2107 (by omega) (by omega)
          have hxl : D ^^^ 2107 < 2 ^ 12 := Nat.xor_lt_two_pow hDl (by omega)
          obtain ⟨x, hx⟩ : ∃ x, x = D ^^^ 2107 := ⟨_, rfl⟩
          rw [← hx] at hxor hxl
          have hx2 : x < 65536 := by omega
          obtain ⟨p, hp⟩ : ∃ p, p = pc 16 x := ⟨_, rfl⟩
          have HP : Hid (p = pc 16 (D ^^^ mk4 2)) := Lib.hid (by rw [hp, hx]; rfl)
          have HO := Lib.hid (fun W => onesCount x hx2 W)
          rw [← hp] at HO
          have hB1 : Below w.heap.size w (wr.alloc (.cells #[.int .i64 3808, .int .i64 476, .int .i64 2107, .int .i64 1799] 3)) := HBEL.out.alloc HBEL.out.size _
          have HB1 := Lib.hid hB1
          clear hx hp hB1
          by_cases h2 : p ≤ 2
          · have h3 : (p : Int) ≤ 2 := by omega
            have HF : Hid (rotFrom D (4 - 2) 2 = 2) := Lib.hid (rotFrom_yes (c := D) (f := 1) (s := 2) (by rw [← HP.out]; exact h2))
            go_wp2_with fail
            refine (expectedCorners _).mono ?_
            rintro e w1 ⟨rfl, rfl⟩
            go_wp2_with fail
            refine (HO.out _).mono ?_
            rintro e w1 ⟨rfl, n, rfl⟩
            go_wp2_with fail
            go_ret2
            exact ⟨below_drewN HB1.out _, .inl ⟨by rw [HRT.out, HF.out]; omega, by rw [HRT.out, HF.out]; rfl⟩⟩
          · have h3 : decide ((p : Int) ≤ 2) = false := by simp; omega
            have h4 : (2 : Int) < (p : Int) := by omega
            have HF : Hid (rotFrom D 4 0 = rotFrom D (4 - (2 + 1)) (2 + 1)) := Lib.hid (HR.out.trans (rotFrom_no (c := D) (f := 1) (s := 2) (by rw [← HP.out]; exact h2)))
            go_wp2_with fail
            refine (expectedCorners _).mono ?_
            rintro e w1 ⟨rfl, rfl⟩
            go_wp2_with fail
            refine (HO.out _).mono ?_
            rintro e w1 ⟨rfl, n, rfl⟩
            go_wp2_with fail
            go_roundw
            case rel => exact ⟨2 + 1, by omega, by rfl, below_drewN HB1.out _, HF⟩
            case measure => simp [intOf]
        · have hxor : bits .xor .i64 (D : Int) 1799 = ((D ^^^ 1799 : Nat) : Int) := i64_xor D 1799 (by omega) (by omega)
          have hxl : D ^^^ 1799 < 2 ^ 12 := Nat.xor_lt_two_pow hDl (by omega)
          obtain ⟨x, hx⟩ : ∃ x, x = D ^^^ 1799 := ⟨_, rfl⟩
          rw [← hx] at hxor hxl
          have hx2 : x < 65536 := by omega
          obtain ⟨p, hp⟩ : ∃ p, p = pc 16 x := ⟨_, rfl⟩
          have HP : Hid (p = pc 16 (D ^^^ mk4 3)) := Lib.hid (by rw [hp, hx]; rfl)
          have HO := Lib.hid (fun W => onesCount x hx2 W)
          rw [← hp] at HO
          have hB1 : Below w.heap.size w (wr.alloc (.cells #[.int .i64 3808, .int .i64 476, .int .i64 2107, .int .i64 1799] 3)) := HBEL.out.alloc HBEL.out.size _
          have HB1 := Lib.hid hB1
          clear hx hp hB1
          by_cases h2 : p ≤ 2
          · have h3 : (p : Int) ≤ 2 := by omega
            have HF : Hid (rotFrom D (4 - 3) 3 = 3) := Lib.hid (rotFrom_yes (c := D) (f := 0) (s := 3) (by rw [← HP.out]; exact h2))
            go_wp2_with fail
            refine (expectedCorners _).mono ?_
            rintro e w1 ⟨rfl, rfl⟩
            go_wp2_with fail
            refine (HO.out _).mono ?_
            rintro e w1 ⟨rfl, n, rfl⟩
            go_wp2_with fail
            go_ret2
            exact ⟨below_drewN HB1.out _, .inl ⟨by rw [HRT.out, HF.out]; omega, by rw [HRT.out, HF.out]; rfl⟩⟩
          · have h3 : decide ((p : Int) ≤ 2) = false := by simp; omega
            have h4 : (2 : Int) < (p : Int) := by omega
            have HF : Hid (rotFrom D 4 0 = rotFrom D (4 - (3 + 1)) (3 + 1)) := Lib.hid (HR.out.trans (rotFrom_no (c := D) (f := 0) (s := 3) (by rw [← HP.out]; exact h2)))
            go_wp2_with fail
            refine (expectedCorners _).mono ?_
            rintro e w1 ⟨rfl, rfl⟩
            go_wp2_with fail
            refine (HO.out _).mono ?_
            rintro e w1 ⟨rfl, n, rfl⟩
            go_wp2_with fail
            go_roundw
            case rel => exact ⟨3 + 1, by omega, by rfl, below_drewN HB1.out _, HF⟩
            case measure => simp [intOf]
        · go_wp2_with fail
          refine (notFound_new _ _ _ _).mono ?_
          rintro e w' ⟨x, rfl, hb⟩
          go_wp2_with fail
          go_ret2
          have hsz := HBEL.out.size
          exact ⟨(HBEL.out.alloc hsz _).trans (hb.mono (by simp; omega)), .inr ⟨by rw [HRT.out]; rfl, x, rfl⟩⟩
end Go.Proofs.Ytpgkbhlgechpmaa
