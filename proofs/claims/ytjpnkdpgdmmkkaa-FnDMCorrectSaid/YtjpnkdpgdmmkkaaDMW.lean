/-
  Data Matrix: the reference's products, error correction of a block, walked. No condition beyond the bounds that each theorem states.
-/
import Derived.Test.YtjpnkdpgdmmkkaaRows
import Derived.Test.YtjpnkdpgdmmkkaaDMP2
import Derived.Test.YtjpnkdpgdmmkkaaCPM
import Derived.StillTailTactics
import Derived.Deep.RegionLaw
namespace Go.Proofs.Ytjpnkdpgdmmkkaa
open Go.RowKit Go.Qz Go.Qz.RS Go.Qz.DM
set_option linter.unusedVariables false

theorem Try.infoIntD : (Try.prog.info? 3).map (fun i => (i.zero, i.size, i.bytes)) = some (some (.int .i64 0), 1, 8) := by kernel_rfl
theorem Try.infoU8D : (Try.prog.info? 5).map (fun i => (i.zero, i.size, i.bytes)) = some (some (.int .u8 0), 1, 1) := by kernel_rfl
theorem one_bitD (x b : Nat) (h : x % 2 = b) (hx : x < 9223372036854775808) : bits .and .i64 (x : Int) 1 = (b : Int) := by
  have := i64_and x 1 hx (by omega)
  rw [Nat.and_one_is_mod, h] at this
  exact this

set_option maxRecDepth 100000 in
set_option maxHeartbeats 1600000 in
theorem dmTimes (a b : Nat) (ha : a < 256) (hb : b < 256) (w : World) :
    Calls Try.prog 26 #[.int .i64 a, .int .i64 b] w fun e w' => e = .returned (.int .i64 (mul D a b : Nat)) ∧ w = w' := by
  go_enter Try.func26, Try.ntmps26
  go_wp2_with fail
  go_loopw [0, 1, 5] (fun x y o wr => ∃ p q r : Nat, x = .int .i64 p ∧ y = .int .i64 q ∧ o = .int .i64 r ∧ p < 256 ∧ q < 256 ∧ r < 256 ∧ Hid (mul D a b = r ^^^ mul D p q) ∧ w = wr) (fun _ y _ _ => (intOf y).toNat)
  case atStart => exact ⟨a, b, 0, rfl, rfl, rfl, ha, hb, by omega, Lib.hid (Nat.zero_xor _).symm, rfl⟩
  case round =>
    obtain ⟨p, q, r, rfl, rfl, rfl, hp, hq, hr, HR, rfl⟩ := hrel
    by_cases h0 : 0 < q
    · have h01 : (0 : Int) < (q : Int) := by omega
      obtain ⟨p2, hp2⟩ : ∃ p2, p2 = 2 * p := ⟨_, rfl⟩
      have hp3 : (p : Int) * 2 = (p2 : Int) := by omega
      have hp4 : p2 < 512 := by omega
      obtain ⟨c, hc⟩ : ∃ c, c = q / 2 := ⟨_, rfl⟩
      have hc1 : (q : Int) / 2 = (c : Int) := by omega
      have hcl : c < 128 := by omega
      obtain ⟨bt, hbt⟩ : ∃ bt, bt = q % 2 := ⟨_, rfl⟩
      have hand := one_bitD q bt hbt.symm (by omega)
      obtain ⟨p5, hp5⟩ : ∃ p5, p5 = RS.step D p := ⟨_, rfl⟩
      have hp6 : p5 < 256 := by rw [hp5]; exact step_256 hp
      have hbt2 : bt = 0 ∨ bt = 1 := by omega
      have hm : mul D a b = (if bt = 0 then r else r ^^^ p) ^^^ mul D p5 c := by
        rw [HR.out, hp5]
        rcases hbt2 with h | h
        · rw [if_pos h, show q = 2 * c by omega, mul_double hp (by omega)]
        · rw [if_neg (by omega), show q = 2 * c + 1 by omega, mul_odd hp (by omega), Nat.xor_assoc]
      have HM := Lib.hid hm
      obtain ⟨rp, hrp⟩ : ∃ rp, rp = r ^^^ p := ⟨_, rfl⟩
      have hxor := i64_xor r p (by omega) (by omega)
      rw [← hrp] at hxor
      have hrpl : rp < 256 := by rw [hrp]; exact xor_256 hr hp
      have HRP := Lib.hid hrp
      have hx2 := i64_xor p2 301 (by omega) (by omega)
      have HCQ : Hid (c < q) := Lib.hid (by omega)
      by_cases hbig : 255 < p2
      · have hbig1 : (255 : Int) < (p2 : Int) := by omega
        have e5 : p2 ^^^ 301 = p5 := by rw [hp5, step_hi hp (by omega), hp2]
        rw [e5] at hx2
        clear hm hrp hp2 hc hbt hp5 e5 HR
        rcases hbt2 with rfl | rfl
        · go_wp2_with fail
          go_roundw
          case rel => exact ⟨p5, c, r, by go_num, by go_num, by go_num, hp6, by omega, hr, HM, by trivial⟩
          case measure => have := HCQ.out; simp [intOf]; omega
        · go_wp2_with fail
          go_roundw
          case rel => exact ⟨p5, c, rp, by go_num, by go_num, by go_num, hp6, by omega, hrpl, Lib.hid (by rw [HRP.out]; exact HM.out), by trivial⟩
          case measure => have := HCQ.out; simp [intOf]; omega
      · have hbig1 : ((255 : Int) < (p2 : Int)) = False := by simp; omega
        have e5 : p2 = p5 := by rw [hp5, step_lo hp (by omega), hp2]
        have HE := Lib.hid e5
        clear hm hrp hp2 hc hbt hp5 e5 HR hx2
        rcases hbt2 with rfl | rfl
        · go_wp2_with fail
          go_roundw
          case rel => exact ⟨p5, c, r, by rw [← HE.out], by go_num, by go_num, hp6, by omega, hr, HM, by trivial⟩
          case measure => have := HCQ.out; simp [intOf]; omega
        · go_wp2_with fail
          go_roundw
          case rel => exact ⟨p5, c, rp, by rw [← HE.out], by go_num, by go_num, hp6, by omega, hrpl, Lib.hid (by rw [HRP.out]; exact HM.out), by trivial⟩
          case measure => have := HCQ.out; simp [intOf]; omega
    · obtain rfl : q = 0 := by omega
      have HM : Hid (mul D a b = r) := Lib.hid (by rw [HR.out, mul_0 hp, Nat.xor_zero])
      clear HR
      go_wp2_with fail
      go_ret
      refine ⟨?_, by trivial⟩
      rw [HM.out]; rfl
end Go.Proofs.Ytjpnkdpgdmmkkaa
