/-
  OnesCount64, OnesCount, NumBitsDiffering, walked. No condition beyond the bounds that each theorem states.
-/
import Derived.Test.YtpeipolknphjhaaBase
import Derived.Test.YtpeipolknphjhaaRows
import Derived.Test.YtpeipolknphjhaaPCP
import Derived.Laws.BitsAllLaws
namespace Go.Proofs.Ytpeipolknphjhaa
open Go.RowKit Go.Qz Go.Qz.PC
set_option linter.unusedVariables false

theorem i64_and_127 (d : Nat) (hd : d < 33554432) : bits .and .i64 (d : Int) 127 = ((d % 128 : Nat) : Int) := by
  have h := i64_and d 127 (by omega) (by omega)
  rw [show d &&& 127 = d % 128 from Nat.and_two_pow_sub_one_eq_mod d 7] at h
  exact h

set_option maxRecDepth 100000 in
set_option maxHeartbeats 3200000 in
theorem ones64 (x : Nat) (hx : x < 16777216) (w : World) :
    Calls Try.prog 75 #[.int .u64 x] w fun e w' => e = .returned (.int .i64 (pc 24 x : Nat)) ∧ w = w' := by
  obtain ⟨a, b, c, d, ha, hal, hb, hbl, hc, hcl, hd, hdl, hp⟩ := count_steps x hx
  obtain ⟨a1, ha1⟩ : ∃ n, n = x / 2 &&& 6148914691236517205 := ⟨_, rfl⟩
  obtain ⟨a2, ha2⟩ : ∃ n, n = x &&& 6148914691236517205 := ⟨_, rfl⟩
  obtain ⟨b1, hb1⟩ : ∃ n, n = a / 4 &&& 3689348814741910323 := ⟨_, rfl⟩
  obtain ⟨b2, hb2⟩ : ∃ n, n = a &&& 3689348814741910323 := ⟨_, rfl⟩
  have la1 : a1 ≤ x / 2 := by rw [ha1]; exact Nat.and_le_left
  have la2 : a2 ≤ x := by rw [ha2]; exact Nat.and_le_left
  have lb1 : b1 ≤ a / 4 := by rw [hb1]; exact Nat.and_le_left
  have lb2 : b2 ≤ a := by rw [hb2]; exact Nat.and_le_left
  obtain ⟨x2, hx2⟩ : ∃ n, n = x / 2 := ⟨_, rfl⟩
  obtain ⟨a4, ha4⟩ : ∃ n, n = a / 4 := ⟨_, rfl⟩
  obtain ⟨bb, hbb⟩ : ∃ n, n = b / 16 + b := ⟨_, rfl⟩
  have e0 : (x : Int) / 2 = (x2 : Int) := by omega
  have e4 : (a : Int) / 4 = (a4 : Int) := by omega
  have e16 : (b : Int) / 16 + (b : Int) = (bb : Int) := by omega
  rw [← hx2] at ha1 la1
  rw [← ha4] at hb1 lb1
  have f1 : bits .and .u64 (x2 : Int) 6148914691236517205 = (a1 : Int) := by rw [ha1]; exact u64_and_nat x2 6148914691236517205 (by omega) (by omega)
  have f2 : bits .and .u64 (x : Int) 6148914691236517205 = (a2 : Int) := by rw [ha2]; exact u64_and_nat x 6148914691236517205 (by omega) (by omega)
  have f3 : bits .and .u64 (a4 : Int) 3689348814741910323 = (b1 : Int) := by rw [hb1]; exact u64_and_nat a4 3689348814741910323 (by omega) (by omega)
  have f4 : bits .and .u64 (a : Int) 3689348814741910323 = (b2 : Int) := by rw [hb2]; exact u64_and_nat a 3689348814741910323 (by omega) (by omega)
  have f5 : bits .and .u64 (bb : Int) 1085102592571150095 = (c : Int) := by rw [← hc, ← hbb]; exact u64_and_nat bb 1085102592571150095 (by omega) (by omega)
  rw [← hx2, ← ha1, ← ha2] at ha
  rw [← ha4, ← hb1, ← hb2] at hb
  have g1 : (a1 : Int) + (a2 : Int) = (a : Int) := by omega
  have g2 : (b1 : Int) + (b2 : Int) = (b : Int) := by omega
  obtain ⟨c8, hc8⟩ : ∃ n, n = c + c / 256 := ⟨_, rfl⟩
  have g3 : (c : Int) + (c : Int) / 256 = (c8 : Int) := by omega
  have g4 : (c8 : Int) + (c8 : Int) / 65536 = (d : Int) := by omega
  have g5 : (d : Int) + (d : Int) / 4294967296 = (d : Int) := by omega
  have g6 : (d : Int) / 4294967296 = 0 := by omega
  have f6 := i64_and_127 d hdl
  rw [hp] at f6
  obtain ⟨p, hpp⟩ : ∃ p, p = pc 24 x := ⟨_, rfl⟩
  rw [← hpp] at f6 ⊢
  have lc8 : c8 < 33554432 := by omega
  have lbb : bb < 33554432 := by omega
  have lb : b < 16777216 := hbl
  clear ha hb hc hd hp hpp ha1 ha2 hb1 hb2 hx2 ha4 hbb hc8
  go_enter Try.func75, Try.ntmps75
  go_wp2_with fail
  go_ret
  exact ⟨rfl, rfl⟩
set_option maxRecDepth 100000 in
set_option maxHeartbeats 800000 in
theorem ones (x : Nat) (hx : x < 16777216) (w : World) :
    Calls Try.prog 71 #[.int .u64 x] w fun e w' => e = .returned (.int .i64 (pc 24 x : Nat)) ∧ w = w' := by
  have HO := Lib.hid (ones64 x hx w)
  obtain ⟨p, hpp⟩ : ∃ p, p = pc 24 x := ⟨_, rfl⟩
  rw [← hpp] at HO ⊢
  clear hpp
  go_enter Try.func71, Try.ntmps71
  go_wp2_with fail
  refine HO.out.mono ?_
  rintro e w1 ⟨rfl, rfl⟩
  go_wp2_with fail
  go_ret
  exact ⟨rfl, rfl⟩
set_option maxRecDepth 100000 in
set_option maxHeartbeats 800000 in
theorem bitsDiffer (x y : Nat) (hx : x < 16777216) (hy : y < 16777216) (w : World) :
    Calls Try.prog 58 #[.int .u64 x, .int .u64 y] w fun e w' => e = .returned (.int .i64 (pc 24 (x ^^^ y) : Nat)) ∧ w = w' := by
  have hz : x ^^^ y < 2 ^ 24 := Nat.xor_lt_two_pow hx hy
  have HO := Lib.hid (ones (x ^^^ y) hz w)
  have hxor := u64_xor_nat x y (by omega) (by omega)
  obtain ⟨p, hpp⟩ : ∃ p, p = pc 24 (x ^^^ y) := ⟨_, rfl⟩
  rw [← hpp] at HO ⊢
  generalize x ^^^ y = z at *
  clear hpp
  go_enter Try.func58, Try.ntmps58
  go_wp2_with fail
  refine HO.out.mono ?_
  rintro e w1 ⟨rfl, rfl⟩
  go_wp2_with fail
  go_ret
  exact ⟨rfl, rfl⟩
end Go.Proofs.Ytpeipolknphjhaa
