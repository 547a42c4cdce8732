/-
  estimateBlackPoint and BlackPoint, walked. No condition beyond the bounds that each theorem states.
-/
import Derived.Test.YthgnmcofclndlaaNF
import Derived.Test.YthgnmcofclndlaaPXP
import Derived.Deep.QuietTactic
import Derived.BigQuiet
import Derived.Deep.DeepCutAuto
namespace Go.Proofs.Ythgnmcofclndlaa
open Go.RowKit Go.Qz Go.Qz.PX
set_option linter.unusedVariables false

theorem mul_bd (a b : Int) (A B : Nat) (ha : a.natAbs ≤ A) (hb : b.natAbs ≤ B) : (a * b).natAbs ≤ A * B := by
  rw [Int.natAbs_mul]; exact Nat.mul_le_mul ha hb
/-- What the estimate ends with. -/
def EstPost (b : Nat → Nat) (w : World) (e : Ending) (w' : World) : Prop := Below w.heap.size w w' ∧
  (isB b = true ∧ e = .returned (.tuple #[.int .i64 ((bound b : Nat) * 8 : Int), .nilIface]) ∨ isB b = false ∧ ∃ x, e = .returned (.tuple #[.int .i64 0, .iface 128 x]))

set_option maxRecDepth 100000 in
set_option maxHeartbeats 6400000 in
theorem estimate (b : Nat → Nat) (hb : ∀ x, x < 32 → b x ≤ 16776960) (v : Value) (A : Option Addr) (c : Nat) (w : World) (h : Rd w A 32 (fun j => .int .i64 (b j : Nat))) :
    Calls Try.prog 75 #[v, .slice A 32 c] w (EstPost b w) := by
  obtain ⟨ab, ao, rfl, hal, hac⟩ := h (by omega)
  dsimp only at hac
  have HC := Lib.hid hac
  have HB := Lib.hid hb
  clear h hac hb
  have h00 : Hid (k1 b 0 = (0, 0)) := Lib.hid rfl
  go_enter Try.func75, Try.ntmps75
  go_wp2_with fail
  go_loop [7, 8, 9, 10] (fun t p u i => ∃ k P M : Nat, k ≤ 32 ∧ i = .int .i64 k ∧ t = .int .i64 M ∧ p = .int .i64 P ∧ u = .int .i64 M ∧ Hid (k1 b k = (P, M))) (fun _ _ _ i => 32 - (intOf i).toNat)
  case atStart => exact ⟨0, 0, 0, by omega, rfl, rfl, rfl, rfl, h00⟩
  case round =>
    obtain ⟨k, P, M, hk, rfl, rfl, rfl, rfl, HK⟩ := hrel
    clear h00
    by_cases hlt : k < 32
    · have hck := HC.out k hlt
      obtain ⟨y, hy⟩ : ∃ y, y = b k := ⟨_, rfl⟩
      rw [← hy] at hck
      by_cases hm : M < y
      · have HN : Hid (k1 b (k + 1) = (k, y)) := Lib.hid (by simp only [k1]; rw [HK.out, if_pos (by rw [← hy]; exact hm), hy])
        have hm1 : (M : Int) < (y : Int) := by omega
        clear hy HK
        go_wp2_with fail
        go_round
        case rel => exact ⟨k + 1, k, y, by omega, by go_num, rfl, rfl, rfl, HN⟩
        case measure => simp [intOf]; omega
      · have HN : Hid (k1 b (k + 1) = (P, M)) := Lib.hid (by simp only [k1]; rw [HK.out, if_neg (by rw [← hy]; exact hm)])
        have hm1 : decide ((M : Int) < (y : Int)) = false := by simp; omega
        have hm2 : decide (M < y) = false := by simp; omega
        clear hy HK
        go_wp2_with fail
        go_round
        case rel => exact ⟨k + 1, P, M, by omega, by go_num, rfl, rfl, rfl, HN⟩
        case measure => simp [intOf]; omega
    · obtain rfl : k = 32 := by omega
      have hP : P < 32 := by have := (bounds_lt b).1; rw [HK.out] at this; exact this
      have hM : M ≤ 16776960 := by
        rcases (k1_spec b 32).2 with h | h <;> rw [HK.out] at h
        · have := h.1; dsimp only at this; omega
        · have h1 := h.2.1; have h2 := HB.out P (by omega); dsimp only at h1; omega
      have h20 : Hid (k2 b P 0 = (0, 0)) := Lib.hid rfl
      clear hlt hk
      go_wp2_with fail
      go_loop [11, 12, 13] (fun q s i => ∃ (k Q : Nat) (S : Int), k ≤ 32 ∧ i = .int .i64 k ∧ q = .int .i64 Q ∧ s = .int .i64 S ∧ Hid (k2 b P k = (Q, S))) (fun _ _ i => 32 - (intOf i).toNat)
      case atStart => exact ⟨0, 0, 0, by omega, rfl, rfl, rfl, h20⟩
      case round =>
        obtain ⟨k, Q, S, hk, rfl, rfl, rfl, HK2⟩ := hrel
        clear h20
        by_cases hlt : k < 32
        · have hck := HC.out k hlt
          have hbk := HB.out k hlt
          obtain ⟨y, hy⟩ : ∃ y, y = b k := ⟨_, rfl⟩
          rw [← hy] at hck hbk
          obtain ⟨d, hd⟩ : ∃ d : Int, d = (k : Int) - (P : Int) := ⟨_, rfl⟩
          have ed : (k : Int) - (P : Int) = d := hd.symm
          obtain ⟨m1, hm1⟩ : ∃ m : Int, m = (y : Int) * d := ⟨_, rfl⟩
          have b1 : -520085760 ≤ m1 ∧ m1 ≤ 520085760 := by
            have := mul_bd (y : Int) d 16776960 31 (by omega) (by omega)
            rw [← hm1] at this; omega
          obtain ⟨m2, hm2⟩ : ∃ m : Int, m = m1 * d := ⟨_, rfl⟩
          have b2 : -16122658560 ≤ m2 ∧ m2 ≤ 16122658560 := by
            have := mul_bd m1 d 520085760 31 (by omega) (by omega)
            rw [← hm2] at this; omega
          have em1 : (y : Int) * d = m1 := hm1.symm
          have em2 : m1 * d = m2 := hm2.symm
          have hw1 : IntKind.i64.wrap m1 = m1 := by rw [IntKind.wrap_i64]; omega
          have hw2 : IntKind.i64.wrap m2 = m2 := by rw [IntKind.wrap_i64]; omega
          have HS : Hid (sc2 b P k = m2) := Lib.hid (by unfold sc2; rw [← hy, ed, em1, em2])
          have d1 : -31 ≤ d ∧ d ≤ 31 := by omega
          obtain ⟨d2, d3⟩ := d1
          obtain ⟨b3, b4⟩ := b1
          obtain ⟨b5, b6⟩ := b2
          by_cases hs : S < m2
          · have HN : Hid (k2 b P (k + 1) = (k, m2)) := Lib.hid (by simp only [k2]; rw [HK2.out, HS.out, if_pos hs])
            clear hy hd hm1 hm2 HK2 HS
            go_wp2_with fail
            go_round
            case rel => exact ⟨k + 1, k, m2, by omega, by go_num, rfl, rfl, HN⟩
            case measure => simp [intOf]; omega
          · have HN : Hid (k2 b P (k + 1) = (Q, S)) := Lib.hid (by simp only [k2]; rw [HK2.out, HS.out, if_neg hs])
            have hs2 : decide (S < m2) = false := by simp; omega
            clear hy hd hm1 hm2 HK2 HS
            go_wp2_with fail
            go_round
            case rel => exact ⟨k + 1, Q, S, by omega, by go_num, rfl, rfl, HN⟩
            case measure => simp [intOf]; omega
        · obtain rfl : k = 32 := by omega
          have hQ : Q < 32 := by have := (bounds_lt b).2; rw [HK.out] at this; dsimp only at this; rw [HK2.out] at this; exact this
          have HLO : Hid (lo b = min P Q) := Lib.hid (by unfold lo; rw [HK.out]; dsimp only; rw [HK2.out])
          have HHI : Hid (hi b = max P Q) := Lib.hid (by unfold hi; rw [HK.out]; dsimp only; rw [HK2.out])
          have HM : Hid (k1 b 32 = (P, M)) := HK
          have HMX : Hid ((k1 b 32).2 = M) := Lib.hid (by rw [HK.out])
          clear hlt hk HK HK2 HM
          by_cases hsw : Q < P
          · have HL : Hid (lo b = Q) := Lib.hid (by rw [HLO.out]; omega)
            have HH : Hid (hi b = P) := Lib.hid (by rw [HHI.out]; omega)
            have hs1 : (Q : Int) < (P : Int) := by omega
            clear HLO HHI
            have hlh : Q ≤ P := by omega
            by_cases hd : 2 < P - Q
            · have hd1 : (2 : Int) < (P : Int) - (Q : Int) := by omega
              have HISB : Hid (isB b = true) := Lib.hid (by unfold isB; rw [HL.out, HH.out]; simpa using hd)
              have h30 : Hid (k3 b Q P M 0 = (P - 1, -1)) := Lib.hid rfl
              obtain ⟨x0, hx0⟩ : ∃ x0, x0 = P - 1 := ⟨_, rfl⟩
              have ex0 : (P : Int) - 1 = (x0 : Int) := by omega
              have hx1 : Q < x0 := by omega
              have hx2 : x0 < 32 := by omega
              rw [← hx0] at h30
              have HX0 := Lib.hid hx0
              clear hx0
              go_wp2_with fail
              go_loop [16, 17, 18] (fun u v i => ∃ (j x V : Nat) (T : Int), i = .int .i64 x ∧ u = .int .i64 V ∧ v = .int .i64 T ∧ Q ≤ x ∧ x < P ∧ V < 32 ∧ Hid (x + j + 1 = P) ∧ Hid (k3 b Q P M j = (V, T))) (fun _ _ i => (intOf i).toNat)
              case atStart => exact ⟨0, x0, x0, -1, rfl, rfl, rfl, by omega, by have := HX0.out; omega, hx2, Lib.hid (by have := HX0.out; omega), h30⟩
              case round =>
                obtain ⟨j, x, V, T, rfl, rfl, rfl, hxl, hxh, hV, HJ, HK3⟩ := hrel
                clear h30
                by_cases hlt : Q < x
                · have hlt1 : (Q : Int) < (x : Int) := by omega
                  have hck := HC.out x (by omega)
                  have hbk := HB.out x (by omega)
                  have hbm : b x ≤ M := by have := (k1_spec b 32).1 x (by omega); rw [HMX.out] at this; exact this
                  obtain ⟨y, hy⟩ : ∃ y, y = b x := ⟨_, rfl⟩
                  rw [← hy] at hck hbk hbm
                  obtain ⟨d, hdd⟩ : ∃ d : Int, d = (x : Int) - (Q : Int) := ⟨_, rfl⟩
                  have ed : (x : Int) - (Q : Int) = d := hdd.symm
                  obtain ⟨g, hg⟩ : ∃ g : Int, g = (P : Int) - (x : Int) := ⟨_, rfl⟩
                  have eg : (P : Int) - (x : Int) = g := hg.symm
                  obtain ⟨q, hq⟩ : ∃ q : Int, q = (M : Int) - (y : Int) := ⟨_, rfl⟩
                  have eq : (M : Int) - (y : Int) = q := hq.symm
                  obtain ⟨m1, hm1⟩ : ∃ m : Int, m = d * d := ⟨_, rfl⟩
                  have b1 : -961 ≤ m1 ∧ m1 ≤ 961 := by have := mul_bd d d 31 31 (by omega) (by omega); rw [← hm1] at this; omega
                  obtain ⟨m2, hm2⟩ : ∃ m : Int, m = m1 * g := ⟨_, rfl⟩
                  have b2 : -29791 ≤ m2 ∧ m2 ≤ 29791 := by have := mul_bd m1 g 961 31 (by omega) (by omega); rw [← hm2] at this; omega
                  obtain ⟨m3, hm3⟩ : ∃ m : Int, m = m2 * q := ⟨_, rfl⟩
                  have b3 : -499802415360 ≤ m3 ∧ m3 ≤ 499802415360 := by have := mul_bd m2 q 29791 16776960 (by omega) (by omega); rw [← hm3] at this; omega
                  have em1 : d * d = m1 := hm1.symm
                  have em2 : m1 * g = m2 := hm2.symm
                  have em3 : m2 * q = m3 := hm3.symm
                  have hw1 : IntKind.i64.wrap m1 = m1 := by rw [IntKind.wrap_i64]; omega
                  have hw2 : IntKind.i64.wrap m2 = m2 := by rw [IntKind.wrap_i64]; omega
                  have hw3 : IntKind.i64.wrap m3 = m3 := by rw [IntKind.wrap_i64]; omega
                  have HS : Hid (va b Q P M x = m3) := Lib.hid (by unfold va; rw [← hy, ed, eg, eq, em1, em2, em3])
                  have hxj : P - 1 - j = x := by have := HJ.out; omega
                  have HXJ := Lib.hid hxj
                  obtain ⟨x', hx'⟩ : ∃ x', x' = x - 1 := ⟨_, rfl⟩
                  have ex' : (x : Int) - 1 = (x' : Int) := by omega
                  have hx'1 : Q ≤ x' := by omega
                  have hx'2 : x' < P := by omega
                  have hx'3 : x' < x := by omega
                  have HJ' : Hid (x' + (j + 1) + 1 = P) := Lib.hid (by have := HJ.out; omega)
                  have d1 : 0 ≤ d ∧ d ≤ 31 := by omega
                  have g1 : 0 ≤ g ∧ g ≤ 31 := by omega
                  have q1 : 0 ≤ q ∧ q ≤ 16776960 := by omega
                  obtain ⟨c1, c2⟩ := d1
                  obtain ⟨c3, c4⟩ := g1
                  obtain ⟨c5, c6⟩ := q1
                  obtain ⟨c7, c8⟩ := b1
                  obtain ⟨c9, c10⟩ := b2
                  obtain ⟨c11, c12⟩ := b3
                  by_cases hs : T < m3
                  · have HN : Hid (k3 b Q P M (j + 1) = (x, m3)) := Lib.hid (by simp only [k3]; rw [HXJ.out, HK3.out, HS.out, if_pos hs])
                    clear hy hdd hg hq hm1 hm2 hm3 HK3 HS hxj hx'
                    go_wp2_with fail
                    go_round
                    case rel => exact ⟨j + 1, x', x, m3, rfl, rfl, rfl, hx'1, hx'2, by omega, HJ', HN⟩
                    case measure => simp [intOf]; omega
                  · have HN : Hid (k3 b Q P M (j + 1) = (V, T)) := Lib.hid (by simp only [k3]; rw [HXJ.out, HK3.out, HS.out, if_neg hs])
                    have hs2 : decide (T < m3) = false := by simp; omega
                    clear hy hdd hg hq hm1 hm2 hm3 HK3 HS hxj hx'
                    go_wp2_with fail
                    go_round
                    case rel => exact ⟨j + 1, x', V, T, rfl, rfl, rfl, hx'1, hx'2, by omega, HJ', HN⟩
                    case measure => simp [intOf]; omega
                · have hxL : x = Q := by omega
                  have HBD : Hid (bound b = V) := Lib.hid (by unfold bound; rw [HL.out, HH.out, HMX.out, show P - 1 - Q = j by have := HJ.out; omega, HK3.out])
                  have hxL1 : decide ((Q : Int) < (x : Int)) = false := by simp; omega
                  have hxL2 : decide (Q < x) = false := by simp; omega
                  clear hxL
                  go_wp2_with fail
                  go_ret2
                  exact ⟨Below.refl _ _, .inl ⟨HISB.out, by rw [HBD.out]; rfl⟩⟩
            · have hd1 : decide ((2 : Int) < (P : Int) - (Q : Int)) = false := by simp; omega
              have hd2 : (P : Int) - (Q : Int) ≤ 2 := by omega
              have HISB : Hid (isB b = false) := Lib.hid (by unfold isB; rw [HL.out, HH.out]; simpa using hd)
              go_wp2_with fail
              refine (notFound_new _ _ _ _).mono ?_
              rintro e w' ⟨x, rfl, hbel⟩
              go_wp2_with fail
              go_ret2
              exact ⟨hbel, .inr ⟨HISB.out, x, rfl⟩⟩
          · have HL : Hid (lo b = P) := Lib.hid (by rw [HLO.out]; omega)
            have HH : Hid (hi b = Q) := Lib.hid (by rw [HHI.out]; omega)
            have hs1 : decide ((Q : Int) < (P : Int)) = false := by simp; omega
            have hs2 : decide (Q < P) = false := by simp; omega
            clear HLO HHI
            have hlh : P ≤ Q := by omega
            by_cases hd : 2 < Q - P
            · have hd1 : (2 : Int) < (Q : Int) - (P : Int) := by omega
              have HISB : Hid (isB b = true) := Lib.hid (by unfold isB; rw [HL.out, HH.out]; simpa using hd)
              have h30 : Hid (k3 b P Q M 0 = (Q - 1, -1)) := Lib.hid rfl
              obtain ⟨x0, hx0⟩ : ∃ x0, x0 = Q - 1 := ⟨_, rfl⟩
              have ex0 : (Q : Int) - 1 = (x0 : Int) := by omega
              have hx1 : P < x0 := by omega
              have hx2 : x0 < 32 := by omega
              rw [← hx0] at h30
              have HX0 := Lib.hid hx0
              clear hx0
              go_wp2_with fail
              go_loop [16, 17, 18] (fun u v i => ∃ (j x V : Nat) (T : Int), i = .int .i64 x ∧ u = .int .i64 V ∧ v = .int .i64 T ∧ P ≤ x ∧ x < Q ∧ V < 32 ∧ Hid (x + j + 1 = Q) ∧ Hid (k3 b P Q M j = (V, T))) (fun _ _ i => (intOf i).toNat)
              case atStart => exact ⟨0, x0, x0, -1, rfl, rfl, rfl, by omega, by have := HX0.out; omega, hx2, Lib.hid (by have := HX0.out; omega), h30⟩
              case round =>
                obtain ⟨j, x, V, T, rfl, rfl, rfl, hxl, hxh, hV, HJ, HK3⟩ := hrel
                clear h30
                by_cases hlt : P < x
                · have hlt1 : (P : Int) < (x : Int) := by omega
                  have hck := HC.out x (by omega)
                  have hbk := HB.out x (by omega)
                  have hbm : b x ≤ M := by have := (k1_spec b 32).1 x (by omega); rw [HMX.out] at this; exact this
                  obtain ⟨y, hy⟩ : ∃ y, y = b x := ⟨_, rfl⟩
                  rw [← hy] at hck hbk hbm
                  obtain ⟨d, hdd⟩ : ∃ d : Int, d = (x : Int) - (P : Int) := ⟨_, rfl⟩
                  have ed : (x : Int) - (P : Int) = d := hdd.symm
                  obtain ⟨g, hg⟩ : ∃ g : Int, g = (Q : Int) - (x : Int) := ⟨_, rfl⟩
                  have eg : (Q : Int) - (x : Int) = g := hg.symm
                  obtain ⟨q, hq⟩ : ∃ q : Int, q = (M : Int) - (y : Int) := ⟨_, rfl⟩
                  have eq : (M : Int) - (y : Int) = q := hq.symm
                  obtain ⟨m1, hm1⟩ : ∃ m : Int, m = d * d := ⟨_, rfl⟩
                  have b1 : -961 ≤ m1 ∧ m1 ≤ 961 := by have := mul_bd d d 31 31 (by omega) (by omega); rw [← hm1] at this; omega
                  obtain ⟨m2, hm2⟩ : ∃ m : Int, m = m1 * g := ⟨_, rfl⟩
                  have b2 : -29791 ≤ m2 ∧ m2 ≤ 29791 := by have := mul_bd m1 g 961 31 (by omega) (by omega); rw [← hm2] at this; omega
                  obtain ⟨m3, hm3⟩ : ∃ m : Int, m = m2 * q := ⟨_, rfl⟩
                  have b3 : -499802415360 ≤ m3 ∧ m3 ≤ 499802415360 := by have := mul_bd m2 q 29791 16776960 (by omega) (by omega); rw [← hm3] at this; omega
                  have em1 : d * d = m1 := hm1.symm
                  have em2 : m1 * g = m2 := hm2.symm
                  have em3 : m2 * q = m3 := hm3.symm
                  have hw1 : IntKind.i64.wrap m1 = m1 := by rw [IntKind.wrap_i64]; omega
                  have hw2 : IntKind.i64.wrap m2 = m2 := by rw [IntKind.wrap_i64]; omega
                  have hw3 : IntKind.i64.wrap m3 = m3 := by rw [IntKind.wrap_i64]; omega
                  have HS : Hid (va b P Q M x = m3) := Lib.hid (by unfold va; rw [← hy, ed, eg, eq, em1, em2, em3])
                  have hxj : Q - 1 - j = x := by have := HJ.out; omega
                  have HXJ := Lib.hid hxj
                  obtain ⟨x', hx'⟩ : ∃ x', x' = x - 1 := ⟨_, rfl⟩
                  have ex' : (x : Int) - 1 = (x' : Int) := by omega
                  have hx'1 : P ≤ x' := by omega
                  have hx'2 : x' < Q := by omega
                  have hx'3 : x' < x := by omega
                  have HJ' : Hid (x' + (j + 1) + 1 = Q) := Lib.hid (by have := HJ.out; omega)
                  have d1 : 0 ≤ d ∧ d ≤ 31 := by omega
                  have g1 : 0 ≤ g ∧ g ≤ 31 := by omega
                  have q1 : 0 ≤ q ∧ q ≤ 16776960 := by omega
                  obtain ⟨c1, c2⟩ := d1
                  obtain ⟨c3, c4⟩ := g1
                  obtain ⟨c5, c6⟩ := q1
                  obtain ⟨c7, c8⟩ := b1
                  obtain ⟨c9, c10⟩ := b2
                  obtain ⟨c11, c12⟩ := b3
                  by_cases hs : T < m3
                  · have HN : Hid (k3 b P Q M (j + 1) = (x, m3)) := Lib.hid (by simp only [k3]; rw [HXJ.out, HK3.out, HS.out, if_pos hs])
                    clear hy hdd hg hq hm1 hm2 hm3 HK3 HS hxj hx'
                    go_wp2_with fail
                    go_round
                    case rel => exact ⟨j + 1, x', x, m3, rfl, rfl, rfl, hx'1, hx'2, by omega, HJ', HN⟩
                    case measure => simp [intOf]; omega
                  · have HN : Hid (k3 b P Q M (j + 1) = (V, T)) := Lib.hid (by simp only [k3]; rw [HXJ.out, HK3.out, HS.out, if_neg hs])
                    have hs2 : decide (T < m3) = false := by simp; omega
                    clear hy hdd hg hq hm1 hm2 hm3 HK3 HS hxj hx'
                    go_wp2_with fail
                    go_round
                    case rel => exact ⟨j + 1, x', V, T, rfl, rfl, rfl, hx'1, hx'2, by omega, HJ', HN⟩
                    case measure => simp [intOf]; omega
                · have hxL : x = P := by omega
                  have HBD : Hid (bound b = V) := Lib.hid (by unfold bound; rw [HL.out, HH.out, HMX.out, show Q - 1 - P = j by have := HJ.out; omega, HK3.out])
                  have hxL1 : decide ((P : Int) < (x : Int)) = false := by simp; omega
                  have hxL2 : decide (P < x) = false := by simp; omega
                  clear hxL
                  go_wp2_with fail
                  go_ret2
                  exact ⟨Below.refl _ _, .inl ⟨HISB.out, by rw [HBD.out]; rfl⟩⟩
            · have hd1 : decide ((2 : Int) < (Q : Int) - (P : Int)) = false := by simp; omega
              have hd2 : (Q : Int) - (P : Int) ≤ 2 := by omega
              have HISB : Hid (isB b = false) := Lib.hid (by unfold isB; rw [HL.out, HH.out]; simpa using hd)
              go_wp2_with fail
              refine (notFound_new _ _ _ _).mono ?_
              rintro e w' ⟨x, rfl, hbel⟩
              go_wp2_with fail
              go_ret2
              exact ⟨hbel, .inr ⟨HISB.out, x, rfl⟩⟩
end Go.Proofs.Ythgnmcofclndlaa
