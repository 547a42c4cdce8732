/-
  qrLevel, qrMask and the statement FnQRFormats, walked. No condition.
-/
import Derived.Test.YtpeipolknphjhaaQFM
namespace Go.Proofs.Ytpeipolknphjhaa
open Go.RowKit Go.Qz Go.Qz.PC Go.Qz.QB
set_option linter.unusedVariables false

theorem u64_pow (r : Nat) (h : r < 32) : IntKind.u64.wrap (2 ^ r) = ((2 ^ r : Nat) : Int) := by
  have h1 : 2 ^ r ≤ 2 ^ 31 := Nat.pow_le_pow_right (by omega) (by omega)
  rw [IntKind.wrap_u64]
  have h2 : ((2 ^ r : Nat) : Int) = (2 : Int) ^ r := by simp
  rw [← h2]
  generalize 2 ^ r = x at *
  omega
set_option maxRecDepth 100000 in
theorem qrLevel (a l : Nat) (ha : a < 256) (hl : l = a % 4) (w : World) :
    Calls Try.prog 9 #[.int .u8 a] w fun e w' => e = .returned (.int .i64 l) ∧ w = w' := by
  have em : (a : Int) % 4 = (l : Int) := by omega
  have et : (a : Int).tmod 4 = (l : Int) := by rw [Int.tmod_eq_emod_of_nonneg (by omega)]; exact em
  clear hl
  go_enter Try.func9, Try.ntmps9
  go_wp2_with fail
  go_ret
  exact ⟨rfl, rfl⟩
set_option maxRecDepth 100000 in
theorem qrMask (a l : Nat) (ha : a < 256) (hl : l = a % 8) (w : World) :
    Calls Try.prog 10 #[.int .u8 a] w fun e w' => e = .returned (.int .i64 l) ∧ w = w' := by
  have em : (a : Int) % 8 = (l : Int) := by omega
  have et : (a : Int).tmod 8 = (l : Int) := by rw [Int.tmod_eq_emod_of_nonneg (by omega)]; exact em
  clear hl
  go_enter Try.func10, Try.ntmps10
  go_wp2_with fail
  go_ret
  exact ⟨rfl, rfl⟩

theorem cells3 {w : World} {t : TypeId} {b : Nat} {x0 x1 x2 : Nat} (h : Arr w t b [.int .u8 x0, .int .u8 x1, .int .u8 x2]) (h0 : x0 < 256) (h1 : x1 < 256) (h2 : x2 < 256) (k : Nat) (hk : k < 3) :
    ∃ z : Nat, z < 256 ∧ w.cell? ⟨b, k, none⟩ = some (.int .u8 z) := by
  have hk' : k = 0 ∨ k = 1 ∨ k = 2 := by omega
  rcases hk' with rfl | rfl | rfl
  · exact ⟨x0, h0, h.cell? 0⟩
  · exact ⟨x1, h1, h.cell? 1⟩
  · exact ⟨x2, h2, h.cell? 2⟩
/-- One more bit is wrong, or none. -/
theorem near_step {X c z k : Nat} (hX : X < 32768) (hp : pc 24 (X ^^^ c) ≤ k) (hz : z < 15) : X ^^^ 2 ^ z < 32768 ∧ pc 24 ((X ^^^ 2 ^ z) ^^^ c) ≤ k + 1 := by
  have h : 2 ^ z ≤ 2 ^ 14 := Nat.pow_le_pow_right (by omega) (by omega)
  exact ⟨Nat.xor_lt_two_pow (n := 15) hX (by omega), by have := pc_flip 24 X c z; omega⟩

set_option maxRecDepth 100000 in
set_option maxHeartbeats 6400000 in
theorem fnQRFormats (w : World) (a : Int) (ha : (Lit.int .u8 a).wf = true) (b : Int) (hb : (Lit.int .u8 b).wf = true) (z0 : Int) (hz0 : (Lit.int .u8 z0).wf = true) (z1 : Int) (hz1 : (Lit.int .u8 z1).wf = true) (z2 : Int) (hz2 : (Lit.int .u8 z2).wf = true)
    (y0 : Int) (hy0 : (Lit.int .u8 y0).wf = true) (y1 : Int) (hy1 : (Lit.int .u8 y1).wf = true) (y2 : Int) (hy2 : (Lit.int .u8 y2).wf = true) :
    Calls Try.prog 3 #[.int .u8 a, .int .u8 b, .agg #[.int .u8 z0, .int .u8 z1, .int .u8 z2], .agg #[.int .u8 y0, .int .u8 y1, .int .u8 y2]] w fun e w' => e = .returned (.bool true) ∧ Below w.heap.size w w' := by
  obtain ⟨x0, rfl⟩ : ∃ x : Nat, z0 = x := ⟨z0.toNat, by have := bd_u8 hz0; omega⟩
  obtain ⟨x1, rfl⟩ : ∃ x : Nat, z1 = x := ⟨z1.toNat, by have := bd_u8 hz1; omega⟩
  obtain ⟨x2, rfl⟩ : ∃ x : Nat, z2 = x := ⟨z2.toNat, by have := bd_u8 hz2; omega⟩
  obtain ⟨v0, rfl⟩ : ∃ x : Nat, y0 = x := ⟨y0.toNat, by have := bd_u8 hy0; omega⟩
  obtain ⟨v1, rfl⟩ : ∃ x : Nat, y1 = x := ⟨y1.toNat, by have := bd_u8 hy1; omega⟩
  obtain ⟨v2, rfl⟩ : ∃ x : Nat, y2 = x := ⟨y2.toNat, by have := bd_u8 hy2; omega⟩
  obtain ⟨a, rfl⟩ : ∃ x : Nat, a = x := ⟨a.toNat, by have := bd_u8 ha; omega⟩
  obtain ⟨b, rfl⟩ : ∃ x : Nat, b = x := ⟨b.toNat, by have := bd_u8 hb; omega⟩
  have ha1 : a < 256 := by have := bd_u8 ha; omega
  have hb1 : b < 256 := by have := bd_u8 hb; omega
  have hC : Hid (∀ (W : World) (B : Nat), (Arr W 22 B [.int .u8 x0, .int .u8 x1, .int .u8 x2] ∨ Arr W 22 B [.int .u8 v0, .int .u8 v1, .int .u8 v2]) → ∀ k : Nat, k < 3 → ∃ z : Nat, z < 256 ∧ W.cell? ⟨B, k, none⟩ = some (.int .u8 z)) := Lib.hid (fun W B h k hk => by
    have c0 := bd_u8 hz0; have c1 := bd_u8 hz1; have c2 := bd_u8 hz2
    have d0 := bd_u8 hy0; have d1 := bd_u8 hy1; have d2 := bd_u8 hy2
    rcases h with h | h
    · exact cells3 h (by omega) (by omega) (by omega) k hk
    · exact cells3 h (by omega) (by omega) (by omega) k hk)
  obtain ⟨l, hl⟩ : ∃ l, l = a % 4 := ⟨_, rfl⟩
  obtain ⟨m, hm⟩ : ∃ m, m = b % 8 := ⟨_, rfl⟩
  have hl4 : l < 4 := by omega
  have hm8 : m < 8 := by omega
  have HL := Lib.hid (fun W => qrLevel a l ha1 hl W)
  have HM := Lib.hid (fun W => qrMask b m hb1 hm W)
  have HFB := Lib.hid (fun W => qrFormatBits l m hl4 hm8 W)
  obtain ⟨j, hj⟩ : ∃ j, j = l * 8 + m := ⟨_, rfl⟩
  rw [← hj] at HFB
  have hj32 : j < 32 := by omega
  have HD := Lib.hid (fun x y hx hy hnx hny W => doorFormat j x y hj32 hx hy hnx hny W)
  rw [show j / 8 = l by omega, show j % 8 = m by omega] at HD
  have hcl := (fb_lt ⟨j, hj32⟩).1
  simp only at hcl
  obtain ⟨c, hc⟩ : ∃ c, c = fb j := ⟨_, rfl⟩
  rw [← hc] at HFB HD hcl
  have hst : Hid ((c < 32768 ∧ pc 24 (c ^^^ c) ≤ 0) ∧ (c < 32768 ∧ pc 24 (c ^^^ c) ≤ 0)) := Lib.hid ⟨⟨hcl, by rw [pc_self]; omega⟩, hcl, by rw [pc_self]; omega⟩
  have hql : ((l : Int) == (l : Int)) = true := by simp
  have hqm : ((m : Int) == (m : Int)) = true := by simp
  have HW : Hid (∀ (W : World), W = ((w.alloc (.cells #[.int .u8 x0, .int .u8 x1, .int .u8 x2] 22)).alloc (.cells #[.int .u8 v0, .int .u8 v1, .int .u8 v2] 22)) →
      Below w.heap.size w W ∧ (∀ k : Nat, k < 3 → ∃ z : Nat, z < 256 ∧ W.cell? ⟨w.heap.size, k, none⟩ = some (.int .u8 z)) ∧ (∀ k : Nat, k < 3 → ∃ z : Nat, z < 256 ∧ W.cell? ⟨w.heap.size + 1, k, none⟩ = some (.int .u8 z))) := Lib.hid (fun W hW => by
    subst hW
    refine ⟨((Below.refl _ _).alloc (Nat.le_refl _) _).alloc (by simp) _, hC.out _ _ (.inl ?_), hC.out _ _ (.inr ?_)⟩
    · exact (Arr.new w _ _).below ((Below.refl _ _).alloc (Nat.le_refl _) _) (by simp)
    · have := Arr.new (w.alloc (.cells #[.int .u8 x0, .int .u8 x1, .int .u8 x2] 22)) 22 [.int .u8 v0, .int .u8 v1, .int .u8 v2]
      simpa using this)
  clear hz0 hz1 hz2 hy0 hy1 hy2 ha hb hc hj hl hm hC
  go_enter Try.func3, Try.ntmps3
  go_wp2_with (first | (go_at_call 9; refine (HL.out _).mono ?_; rintro e w1 ⟨rfl, rfl⟩) | (go_at_call 10; refine (HM.out _).mono ?_; rintro e w1 ⟨rfl, rfl⟩) | (go_at_call 8; refine (HFB.out _).mono ?_; rintro e w1 ⟨rfl, rfl⟩))
  obtain ⟨HB0, HX0, HY0⟩ := HW.out _ rfl
  have HB := Lib.hid HB0
  have HX := Lib.hid HX0
  have HY := Lib.hid HY0
  clear HB0 HX0 HY0 HW
  generalize (w.alloc (.cells #[.int .u8 x0, .int .u8 x1, .int .u8 x2] 22)).alloc (.cells #[.int .u8 v0, .int .u8 v1, .int .u8 v2] 22) = W1 at *
  obtain ⟨G, hG⟩ : ∃ G, G = w.heap.size := ⟨_, rfl⟩
  have HGS := Lib.hid (hG ▸ HB.out.size : G ≤ W1.heap.size)
  rw [← hG] at HX HY HB ⊢
  have HGE := Lib.hid hG
  clear hG
  go_loop [9, 10, 27] (fun u v i => ∃ k X Y : Nat, k ≤ 3 ∧ i = .int .i64 k ∧ u = .int .u64 X ∧ v = .int .u64 Y ∧ Hid ((X < 32768 ∧ pc 24 (X ^^^ c) ≤ k) ∧ (Y < 32768 ∧ pc 24 (Y ^^^ c) ≤ k))) (fun _ _ i => 3 - (intOf i).toNat)
  case atStart => exact ⟨0, c, c, by omega, rfl, rfl, rfl, hst⟩
  case round =>
    obtain ⟨k, X, Y, hk, rfl, rfl, rfl, HXY⟩ := hrel
    clear hst
    by_cases hlt : k < 3
    · have hlt1 : (k : Int) < 3 := by omega
      have hlt0 : (0 : Int) ≤ (k : Int) := by omega
      obtain ⟨z, hz, hcz⟩ := HX.out k hlt
      obtain ⟨y, hy, hcy⟩ := HY.out k hlt
      have hXl := HXY.out.1.1
      have hYl := HXY.out.2.1
      obtain ⟨X', hX'⟩ : ∃ X', X' = if z < 15 then X ^^^ 2 ^ z else X := ⟨_, rfl⟩
      obtain ⟨Y', hY'⟩ : ∃ Y', Y' = if y < 15 then Y ^^^ 2 ^ y else Y := ⟨_, rfl⟩
      have HN : Hid ((X' < 32768 ∧ pc 24 (X' ^^^ c) ≤ k + 1) ∧ (Y' < 32768 ∧ pc 24 (Y' ^^^ c) ≤ k + 1)) := Lib.hid (by
        obtain ⟨⟨p1, p2⟩, q1, q2⟩ := HXY.out
        subst hX' hY'
        refine ⟨?_, ?_⟩
        · split
          · exact near_step p1 p2 (by assumption)
          · exact ⟨p1, by omega⟩
        · split
          · exact near_step q1 q2 (by assumption)
          · exact ⟨q1, by omega⟩)
      clear HXY
      by_cases hz15 : z < 15
      · have hz1 : (z : Int) < 15 := by omega
        have e3 := u64_pow z (by omega)
        have hp : 2 ^ z < 32768 := by
          have : 2 ^ z ≤ 2 ^ 14 := Nat.pow_le_pow_right (by omega) (by omega)
          omega
        have hxor := u64_xor_nat X (2 ^ z) (by omega) (by omega)
        rw [if_pos hz15] at hX'
        rw [← hX'] at hxor
        generalize 2 ^ z = pz at *
        clear hX' hz15
        by_cases hy15 : y < 15
        · have hy1 : (y : Int) < 15 := by omega
          have e4 := u64_pow y (by omega)
          have hp2 : 2 ^ y < 32768 := by
            have : 2 ^ y ≤ 2 ^ 14 := Nat.pow_le_pow_right (by omega) (by omega)
            omega
          have hxor2 := u64_xor_nat Y (2 ^ y) (by omega) (by omega)
          rw [if_pos hy15] at hY'
          rw [← hY'] at hxor2
          generalize 2 ^ y = py at *
          clear hY' hy15
          go_wp2_with fail
          go_round
          case rel => exact ⟨k + 1, X', Y', by omega, by go_num, by go_num, by go_num, HN⟩
          case measure => simp [intOf]; omega
        · have hy1 : ((y : Int) < 15) = False := by simp; omega
          rw [if_neg hy15] at hY'
          subst hY'
          clear hy15
          go_wp2_with fail
          go_round
          case rel => exact ⟨k + 1, X', Y', by omega, by go_num, by go_num, by go_num, HN⟩
          case measure => simp [intOf]; omega
      · have hz1 : ((z : Int) < 15) = False := by simp; omega
        rw [if_neg hz15] at hX'
        subst hX'
        clear hz15
        by_cases hy15 : y < 15
        · have hy1 : (y : Int) < 15 := by omega
          have e4 := u64_pow y (by omega)
          have hp2 : 2 ^ y < 32768 := by
            have : 2 ^ y ≤ 2 ^ 14 := Nat.pow_le_pow_right (by omega) (by omega)
            omega
          have hxor2 := u64_xor_nat Y (2 ^ y) (by omega) (by omega)
          rw [if_pos hy15] at hY'
          rw [← hY'] at hxor2
          generalize 2 ^ y = py at *
          clear hY' hy15
          go_wp2_with fail
          go_round
          case rel => exact ⟨k + 1, X', Y', by omega, by go_num, by go_num, by go_num, HN⟩
          case measure => simp [intOf]; omega
        · have hy1 : ((y : Int) < 15) = False := by simp; omega
          rw [if_neg hy15] at hY'
          subst hY'
          clear hy15
          go_wp2_with fail
          go_round
          case rel => exact ⟨k + 1, X', Y', by omega, by go_num, by go_num, by go_num, HN⟩
          case measure => simp [intOf]; omega
    · obtain rfl : k = 3 := by omega
      have HDD := Lib.hid (HD.out X Y HXY.out.1.1 HXY.out.2.1 HXY.out.1.2 HXY.out.2.2)
      clear HXY hk hlt
      go_wp2_with fail
      refine (HDD.out _).mono ?_
      rintro e w2 ⟨rfl, hb⟩
      have HB2 := Lib.hid (HB.out.trans (hb.mono HGS.out))
      clear hb
      go_wp2_with (first | (go_at_call 9; refine (HL.out _).mono ?_; rintro e w1 ⟨rfl, rfl⟩) | (go_at_call 10; refine (HM.out _).mono ?_; rintro e w1 ⟨rfl, rfl⟩))
      go_ret
      exact ⟨rfl, HGE.out ▸ HB2.out⟩
end Go.Proofs.Ytpeipolknphjhaa
