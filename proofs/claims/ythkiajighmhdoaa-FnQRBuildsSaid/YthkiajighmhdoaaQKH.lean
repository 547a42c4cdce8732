/-
  BCH codes as the encoder reckons them, walked. No condition beyond the bounds that each theorem states.
-/
import Derived.Test.YthkiajighmhdoaaQKG
import Derived.Test.YthkiajighmhdoaaQKR
import Derived.Lib.BitFns
namespace Go.Proofs.Ythkiajighmhdoaa
open Go.RowKit Go.Qz Go.Qz.QK Go.Qz.QW Go.Qz.QB
set_option linter.unusedVariables false


set_option maxRecDepth 100000 in
set_option maxHeartbeats 1600000 in
theorem len32 (x : Nat) (hx : x < 262144) (w : World) : Calls Try.prog 130 #[.int .u32 x] w fun e w' => e = .returned (.int .i64 (Lib.bitLen x : Nat)) ∧ w = w' := by
  have h8 : ∀ y : Nat, y < 256 → Lib.len8 (y : Int) = (Lib.bitLen y : Nat) := fun y hy => by
    have := Lib.len8_of (y : Int) (by omega) (by omega)
    simpa using this
  have hl8 : ∀ y : Nat, y < 256 → Lib.bitLen y ≤ 8 := fun y hy => Lib.bitLen_le y 8 (by omega) (by omega)
  by_cases h1 : 65536 ≤ x
  · have g1 : (65536 : Int) ≤ (x : Int) := by omega
    have eb := Lib.bitLen_shift16 x h1 (by omega)
    obtain ⟨y, hy⟩ : ∃ y, y = x / 65536 := ⟨_, rfl⟩
    have ey : (x : Int) / 65536 = (y : Int) := by omega
    have hy4 : y < 4 := by omega
    have g2 : ((256 : Int) ≤ (y : Int)) = False := by simp; omega
    have e8 := h8 y (by omega)
    have l8 := hl8 y (by omega)
    rw [← hy] at eb
    obtain ⟨b, hb⟩ : ∃ b, b = Lib.bitLen y := ⟨_, rfl⟩
    rw [← hb] at eb e8 l8
    rw [eb]
    have hix : ∀ W, (Instr.index 9 (.string Lib.len8tab) (.int .u8 ((y : Nat) : Int))).run Try.prog W = .ok (.int .u8 (b : Nat)) W := fun W => by rw [Lib.run_index_len8tab W _ _ _ Try.underlying9 (by omega) (by omega), e8]
    clear h8 hl8 eb hy hb h1 e8
    go_enter Try.func130, Try.ntmps130
    go_wp2_with fail
    go_ret
    exact ⟨by first | rfl | (congr 2; omega), rfl⟩
  · have g1 : ((65536 : Int) ≤ (x : Int)) = False := by simp; omega
    by_cases h2 : 256 ≤ x
    · have g2 : (256 : Int) ≤ (x : Int) := by omega
      have eb := Lib.bitLen_shift8 x h2 (by omega)
      obtain ⟨y, hy⟩ : ∃ y, y = x / 256 := ⟨_, rfl⟩
      have ey : (x : Int) / 256 = (y : Int) := by omega
      have hy4 : y < 256 := by omega
      have e8 := h8 y (by omega)
      have l8 := hl8 y (by omega)
      rw [← hy] at eb
      obtain ⟨b, hb⟩ : ∃ b, b = Lib.bitLen y := ⟨_, rfl⟩
      rw [← hb] at eb e8 l8
      rw [eb]
      have hix : ∀ W, (Instr.index 9 (.string Lib.len8tab) (.int .u8 ((y : Nat) : Int))).run Try.prog W = .ok (.int .u8 (b : Nat)) W := fun W => by rw [Lib.run_index_len8tab W _ _ _ Try.underlying9 (by omega) (by omega), e8]
      clear h8 hl8 eb hy hb h1 h2 e8
      go_enter Try.func130, Try.ntmps130
      go_wp2_with fail
      go_ret
      exact ⟨by first | rfl | (congr 2; omega), rfl⟩
    · have g2 : ((256 : Int) ≤ (x : Int)) = False := by simp; omega
      have e8 := h8 x (by omega)
      have l8 := hl8 x (by omega)
      have hx8 : x < 256 := by omega
      obtain ⟨b, hb⟩ : ∃ b, b = Lib.bitLen x := ⟨_, rfl⟩
      rw [← hb] at e8 l8 ⊢
      have hix : ∀ W, (Instr.index 9 (.string Lib.len8tab) (.int .u8 ((x : Nat) : Int))).run Try.prog W = .ok (.int .u8 (b : Nat)) W := fun W => by rw [Lib.run_index_len8tab W _ _ _ Try.underlying9 (by omega) (by omega), e8]
      clear h8 hl8 hb h1 h2 hx e8
      go_enter Try.func130, Try.ntmps130
      go_wp2_with fail
      go_ret
      exact ⟨by first | rfl | (congr 2; omega), rfl⟩
set_option maxRecDepth 100000 in
theorem msb (x : Nat) (hx : x < 262144) (w : World) : Calls Try.prog 128 #[.int .i64 x] w fun e w' => e = .returned (.int .i64 (Lib.bitLen x : Nat)) ∧ w = w' := by
  have HL := Lib.hid (len32 x hx w)
  have hb := Lib.bitLen_le x 18 (by omega) (by omega)
  obtain ⟨b, hbe⟩ : ∃ b, b = Lib.bitLen x := ⟨_, rfl⟩
  rw [← hbe] at HL hb ⊢
  clear hbe
  obtain ⟨u, hu⟩ : ∃ u, u = 32 - b := ⟨_, rfl⟩
  have e1 : (32 : Int) - (b : Int) = (u : Int) := by omega
  have e2 : (32 : Int) - (u : Int) = (b : Int) := by omega
  have HZ : Hid (Calls Try.prog 129 #[.int .u32 x] w fun e w' => e = .returned (.int .i64 u) ∧ w = w') := Lib.hid (by
    have hu2 : u ≤ 32 := by omega
    clear hu
    go_enter Try.func129, Try.ntmps129
    go_wp2_with fail
    refine HL.out.mono ?_
    rintro e w1 ⟨rfl, rfl⟩
    go_wp2_with fail
    go_ret
    exact ⟨by first | rfl | rw [e1], rfl⟩)
  have hu2 : u ≤ 32 := by omega
  clear hu
  go_enter Try.func128, Try.ntmps128
  go_wp2_with fail
  refine HZ.out.mono ?_
  rintro e w1 ⟨rfl, rfl⟩
  go_wp2_with fail
  go_ret
  exact ⟨by first | rfl | rw [e2], rfl⟩
/-- One step of the encoder's division, and some of them. -/
def bst (p m y : Nat) : Nat := if Lib.bitLen y < m then y else y ^^^ (p * 2 ^ (Lib.bitLen y - m))
def chn (p m y : Nat) : Nat → Nat
  | 0 => y
  | k + 1 => bst p m (chn p m y k)
def okB (p m y : Nat) : Bool := decide (Lib.bitLen (chn p m y 6) < m) && (List.range 7).all fun k => decide (chn p m y k < 262144) && (decide (Lib.bitLen (chn p m y k) < m) || decide (Lib.bitLen (chn p m y k) - m ≤ 7 ∧ p * 2 ^ (Lib.bitLen (chn p m y k) - m) < 262144))
theorem okB_ty : ((List.range 32).all fun d => okB 1335 11 (d * 1024) && decide (chn 1335 11 (d * 1024) 6 = rrest 1335 11 8 (d * 1024))) = true := by decide +kernel
theorem okB_ver : ((List.range 41).all fun v => okB 7973 13 (v * 4096) && decide (chn 7973 13 (v * 4096) 6 = rrest 7973 13 6 (v * 4096))) = true := by decide +kernel
theorem okB_of {p m y : Nat} (h : okB p m y = true) : Lib.bitLen (chn p m y 6) < m ∧ ∀ k, k ≤ 6 → chn p m y k < 262144 ∧ (Lib.bitLen (chn p m y k) < m ∨ Lib.bitLen (chn p m y k) - m ≤ 7 ∧ p * 2 ^ (Lib.bitLen (chn p m y k) - m) < 262144) := by
  unfold okB at h
  simp only [Bool.and_eq_true, Bool.or_eq_true, decide_eq_true_eq, List.all_eq_true, List.mem_range] at h
  exact ⟨h.1, fun k hk => h.2 k (by omega)⟩
theorem chn_stop {p m y : Nat} : ∀ (k j : Nat), Lib.bitLen (chn p m y k) < m → chn p m y (k + j) = chn p m y k
  | k, 0, h => rfl
  | k, j + 1, h => by
    have ih := chn_stop k j h
    show bst p m (chn p m y (k + j)) = _
    rw [ih]; unfold bst; rw [if_pos h]
set_option maxRecDepth 100000 in
set_option maxHeartbeats 3200000 in
theorem bch (x p m P2 : Nat) (hx : x < 64) (hp : p < 16384) (hp0 : 0 < p) (hm : m ≤ 13) (hm1 : 1 ≤ m) (hpm : Lib.bitLen p = m) (hok : okB p m (x * 2 ^ (m - 1)) = true) (w : World) :
    Calls Try.prog 124 #[.int .i64 x, .int .i64 p] w fun e w' => e = .returned (.tuple #[.int .i64 (chn p m (x * 2 ^ (m - 1)) 6 : Nat), .nilIface]) ∧ w = w' := by
  obtain ⟨h6, hk⟩ := okB_of hok
  obtain ⟨y, hy⟩ : ∃ y, y = x * 2 ^ (m - 1) := ⟨_, rfl⟩
  rw [← hy] at h6 hk ⊢
  have HP := Lib.hid (msb p (by omega) w)
  rw [hpm] at HP
  obtain ⟨s, hs⟩ : ∃ s, s = m - 1 := ⟨_, rfl⟩
  have es : (m : Int) - 1 = (s : Int) := by omega
  have esh : (x : Int) * 2 ^ s = (y : Int) := by rw [hy, hs]; simp
  have hp0i : ((p : Int) == 0) = false := by simp; omega
  have hy18 : y < 262144 := (hk 0 (by omega)).1
  have HK := Lib.hid hk
  have H6 := Lib.hid h6
  have hs20 : s ≤ 20 := by omega
  clear hok h6 hk hy hs hpm
  go_enter Try.func124, Try.ntmps124
  go_wp2_with fail
  refine HP.out.mono ?_
  rintro e w1 ⟨rfl, rfl⟩
  go_wp2_with fail
  go_loopg [0] 7 (fun gk u wr => ∃ k X : Nat, k + gk = 7 ∧ 1 ≤ gk ∧ u = .int .i64 X ∧ Hid (X = chn p m y k) ∧ w = wr)
  case atStart => exact ⟨0, y, by omega, by omega, rfl, Lib.hid rfl, rfl⟩
  case round =>
    obtain ⟨k, X, hkg, hg1, rfl, HX, rfl⟩ := hrel
    obtain ⟨h18, hcase⟩ := HK.out k (by omega)
    rw [← HX.out] at h18 hcase
    have HB := Lib.hid (msb X h18 w)
    have hb18 := Lib.bitLen_le X 18 (by omega) (by omega)
    by_cases hlt : Lib.bitLen X < m
    · obtain ⟨b, hb⟩ : ∃ b, b = Lib.bitLen X := ⟨_, rfl⟩
      rw [← hb] at HB hlt hb18
      have g1 : ((m : Int) ≤ (b : Int)) = False := by simp; omega
      have HE : Hid (chn p m y 6 = X) := Lib.hid (by
        rw [HX.out, show 6 = k + (6 - k) by omega]
        exact chn_stop k (6 - k) (by rw [← HX.out, ← hb]; exact hlt))
      clear hb hlt hcase
      go_wp2_with fail
      refine HB.out.mono ?_
      rintro e w1 ⟨rfl, rfl⟩
      go_wp2_with fail
      go_ret2
      exact ⟨by rw [HE.out]; rfl, rfl⟩
    · have hc := hcase.resolve_left hlt
      have hstep : Hid (chn p m y (k + 1) = X ^^^ (p * 2 ^ (Lib.bitLen X - m))) := Lib.hid (by
        show bst p m (chn p m y k) = _
        rw [← HX.out]; unfold bst; rw [if_neg hlt])
      have hk6 : Hid (k < 6) := Lib.hid (by
        rcases Nat.lt_or_ge k 6 with h | h
        · exact h
        · obtain rfl : k = 6 := by omega
          exact absurd H6.out (by rw [← HX.out]; exact hlt))
      obtain ⟨b, hb⟩ : ∃ b, b = Lib.bitLen X := ⟨_, rfl⟩
      rw [← hb] at HB hlt hb18 hc hstep
      have g1 : (m : Int) ≤ (b : Int) := by omega
      obtain ⟨t, ht⟩ : ∃ t, t = b - m := ⟨_, rfl⟩
      rw [← ht] at hc hstep
      have et : (b : Int) - (m : Int) = (t : Int) := by omega
      obtain ⟨z, hz⟩ : ∃ z, z = p * 2 ^ t := ⟨_, rfl⟩
      rw [← hz] at hc hstep
      have ez : (p : Int) * 2 ^ t = (z : Int) := by rw [hz]; simp
      have hxor := i64_xor X z (by omega) (by omega)
      obtain ⟨Y, hY⟩ : ∃ Y, Y = X ^^^ z := ⟨_, rfl⟩
      rw [← hY] at hxor hstep
      have HS := Lib.hid hstep.out.symm
      have ht7 : t ≤ 7 := hc.1
      have hz18 : z < 262144 := hc.2
      have hY18 : Y < 262144 := by rw [hY]; exact Nat.xor_lt_two_pow (n := 18) h18 hz18
      clear hb hlt hcase hc hstep ht hz hY
      go_wp2_with fail
      refine HB.out.mono ?_
      rintro e w1 ⟨rfl, rfl⟩
      go_wp2_with fail
      refine HB.out.mono ?_
      rintro e w1 ⟨rfl, rfl⟩
      go_wp2_with fail
      go_roundg (gk - 1)
      case rel => exact ⟨k + 1, Y, by have := hk6.out; omega, by have := hk6.out; omega, by go_num, HS, rfl⟩
      all_goals omega
end Go.Proofs.Ythkiajighmhdoaa
