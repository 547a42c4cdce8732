/-
  The statement FnQRVersionNear, walked. No condition.
-/
import Derived.Test.YtpeipolknphjhaaQRN
namespace Go.Proofs.Ytpeipolknphjhaa
open Go.RowKit Go.Qz Go.Qz.PC Go.Qz.QB
set_option linter.unusedVariables false

theorem i64_pow (r : Nat) (h : r < 32) : IntKind.i64.wrap (2 ^ r) = ((2 ^ r : Nat) : Int) := by
  have h1 : 2 ^ r ≤ 2 ^ 31 := Nat.pow_le_pow_right (by omega) (by omega)
  rw [IntKind.wrap_i64]
  have h2 : ((2 ^ r : Nat) : Int) = (2 : Int) ^ r := by simp
  rw [← h2]
  generalize 2 ^ r = x at *
  omega

set_option maxRecDepth 100000 in
set_option maxHeartbeats 3200000 in
theorem fnQRVersionNear (w : World) (a : Int) (ha : (Lit.int .u8 a).wf = true) (z0 : Int) (hz0 : (Lit.int .u8 z0).wf = true) (z1 : Int) (hz1 : (Lit.int .u8 z1).wf = true) (z2 : Int) (hz2 : (Lit.int .u8 z2).wf = true) :
    Calls Try.prog 6 #[.int .u8 a, .agg #[.int .u8 z0, .int .u8 z1, .int .u8 z2]] w fun e w' => e = .returned (.bool true) ∧ Below w.heap.size w w' := by
  obtain ⟨x0, rfl⟩ : ∃ x : Nat, z0 = x := ⟨z0.toNat, by have := bd_u8 hz0; omega⟩
  obtain ⟨x1, rfl⟩ : ∃ x : Nat, z1 = x := ⟨z1.toNat, by have := bd_u8 hz1; omega⟩
  obtain ⟨x2, rfl⟩ : ∃ x : Nat, z2 = x := ⟨z2.toNat, by have := bd_u8 hz2; omega⟩
  obtain ⟨a, rfl⟩ : ∃ x : Nat, a = x := ⟨a.toNat, by have := bd_u8 ha; omega⟩
  have HI : Hid (∀ k : Nat, k < 3 → ∃ z : Nat, z < 256 ∧ ∀ W, (Instr.index 22 (.agg #[.int .u8 x0, .int .u8 x1, .int .u8 x2]) (.int .i64 k)).run Try.prog W = .ok (.int .u8 z) W) := Lib.hid (fun k hk => by
    have hu : Try.prog.underlying 22 = some (.array 3 5) := by kernel_rfl
    have hk' : k = 0 ∨ k = 1 ∨ k = 2 := by omega
    have b0 := bd_u8 hz0
    have b1 := bd_u8 hz1
    have b2 := bd_u8 hz2
    rcases hk' with rfl | rfl | rfl
    · exact ⟨x0, by omega, fun W => by simp [Instr.index, run_underlying hu, asIntOf, go_sem]⟩
    · exact ⟨x1, by omega, fun W => by simp [Instr.index, run_underlying hu, asIntOf, go_sem]⟩
    · exact ⟨x2, by omega, fun W => by simp [Instr.index, run_underlying hu, asIntOf, go_sem]⟩)
  have ha1 : a < 256 := by have := bd_u8 ha; omega
  obtain ⟨j, hj⟩ : ∃ j, j = a % 34 := ⟨_, rfl⟩
  have hj34 : j < 34 := by omega
  have em : (a : Int) % 34 = (j : Int) := by omega
  have et : (a : Int).tmod 34 = (j : Int) := by rw [Int.tmod_eq_emod_of_nonneg (by omega)]; exact em
  have hvl := vb_lt ⟨j, hj34⟩
  simp only at hvl
  have e7 : (7 : Int) + (j : Int) = ((j + 7 : Nat) : Int) := by omega
  have HQ := Lib.hid (fun W => qrVersionBits (j + 7) (by omega) W hvl.2)
  have HDV := Lib.hid (fun x hx hn W => doorVersionBits j x hj34 hx hn W)
  obtain ⟨v, hv⟩ : ∃ v, v = j + 7 := ⟨_, rfl⟩
  rw [← hv] at e7 HQ HDV hvl
  have hv1 : v < 64 := by omega
  have HVB := Lib.hid hvl.1
  obtain ⟨c, hc⟩ : ∃ c, c = vb v := ⟨_, rfl⟩
  rw [← hc] at HQ HDV HVB
  have hst : Hid (c < 262144 ∧ pc 24 (c ^^^ c) ≤ 0) := Lib.hid ⟨HVB.out, by rw [pc_self]; omega⟩
  have hqv : ((v : Int) == (v : Int)) = true := by simp
  clear hz0 hz1 hz2 ha hvl hv hc hj
  go_enter Try.func6, Try.ntmps6
  go_wp2_with fail
  refine (HQ.out _).mono ?_
  rintro e w1 ⟨rfl, rfl⟩
  have HB : Hid (Below w.heap.size w (w.alloc (.cells #[.int .u8 x0, .int .u8 x1, .int .u8 x2] 22))) := Lib.hid ((Below.refl _ _).alloc (Nat.le_refl _) _)
  go_wp2_with fail
  generalize w.alloc (.cells #[.int .u8 x0, .int .u8 x1, .int .u8 x2] 22) = W1 at *
  go_loop [6, 18] (fun u i => ∃ k X : Nat, k ≤ 3 ∧ i = .int .i64 k ∧ u = .int .i64 X ∧ Hid (X < 262144 ∧ pc 24 (X ^^^ c) ≤ k)) (fun _ i => 3 - (intOf i).toNat)
  case atStart => exact ⟨0, c, by omega, rfl, rfl, hst⟩
  case round =>
    obtain ⟨k, X, hk, rfl, rfl, HX⟩ := hrel
    clear hst
    by_cases hlt : k < 3
    · have hlt1 : (k : Int) < 3 := by omega
      obtain ⟨z, hz, hidx⟩ := HI.out k hlt
      by_cases hz18 : z < 18
      · have hz1 : (z : Int) < 18 := by omega
        have e3 := i64_pow z (by omega)
        have hp : 2 ^ z < 262144 := by
          have : 2 ^ z ≤ 2 ^ 17 := Nat.pow_le_pow_right (by omega) (by omega)
          omega
        have hX := HX.out.1
        have hxor := i64_xor X (2 ^ z) (by omega) (by omega)
        have HN : Hid (X ^^^ 2 ^ z < 262144 ∧ pc 24 ((X ^^^ 2 ^ z) ^^^ c) ≤ k + 1) := Lib.hid ⟨Nat.xor_lt_two_pow (n := 18) hX hp, by have := pc_flip 24 X c z; have := HX.out.2; omega⟩
        generalize X ^^^ 2 ^ z = Y at *
        generalize 2 ^ z = p at *
        clear HX
        go_wp2_with fail
        go_round
        case rel => exact ⟨k + 1, Y, by omega, by go_num, by go_num, HN⟩
        case measure => simp [intOf]; omega
      · have hz1 : ((z : Int) < 18) = False := by simp; omega
        have HN : Hid (X < 262144 ∧ pc 24 (X ^^^ c) ≤ k + 1) := Lib.hid ⟨HX.out.1, by have := HX.out.2; omega⟩
        clear HX
        go_wp2_with fail
        go_round
        case rel => exact ⟨k + 1, X, by omega, by go_num, by go_num, HN⟩
        case measure => simp [intOf]; omega
    · obtain rfl : k = 3 := by omega
      have HD := Lib.hid (HDV.out X HX.out.1 HX.out.2)
      clear HX hk hlt
      go_wp2_with fail
      refine (HD.out _).mono ?_
      rintro e w2 ⟨rfl, hb⟩
      have HB2 := Lib.hid (HB.out.trans (hb.mono HB.out.size))
      clear hb
      go_wp2_with fail
      go_ret
      exact ⟨rfl, HB2.out⟩
end Go.Proofs.Ytpeipolknphjhaa
