/-
  Pictures by bounds of their parts: PXSquares, cap, thresholdBlock, walked. No condition beyond the bounds that each theorem states.
-/
import Derived.Test.YthgnmcofclndlaaPYF
namespace Go.Proofs.Ythgnmcofclndlaa
open Go.RowKit Go.Qz
set_option linter.unusedVariables false

/-- In each square of eight by eight not all are alike. -/
def Sq (Z : Nat → Nat → Bool) (y x : Nat) : Prop := ∃ k, k < 64 ∧ Z (y + k / 8) (x + k % 8) ≠ Z y x
def Squares (Z : Nat → Nat → Bool) (H W : Nat) : Prop := ∀ y x, y + 8 ≤ H → x + 8 ≤ W → Sq Z y x
set_option maxRecDepth 100000 in
set_option maxHeartbeats 6400000 in
theorem pxSquares (Z : Nat → Nat → Bool) (H W c : Nat) (A : Option Addr) (hH0 : 0 < H) (hW0 : 0 < W) (hH : H ≤ 1000) (hW : W ≤ 1000) (w : World) (h : Rows2 w A H W Z) :
    Calls Try.prog 20 #[.slice A H c] w (RetB (fun r => r = true → Squares Z H W) w) := by
  have HR := Lib.hid h
  clear h
  go_enter Try.func20, Try.ntmps20
  go_wp2_with fail
  go_loopw [3] (fun i wr => ∃ y : Nat, i = .int .i64 y ∧ y ≤ H ∧ Hid (Below w.heap.size w wr) ∧ Hid (∀ y' x, y' < y → y' + 8 ≤ H → x + 8 ≤ W → Sq Z y' x)) (fun i _ => H + 1 - (intOf i).toNat)
  case atStart => exact ⟨0, rfl, by omega, Lib.hid (Below.refl _ _), Lib.hid (fun y' x h => by omega)⟩
  case round =>
    obtain ⟨wo, hwo⟩ : ∃ wo, wo = wr := ⟨_, rfl⟩
    rw [← hwo] at hrel ⊢
    clear hwo
    obtain ⟨y, rfl, hyH, HB, HQ⟩ := hrel
    have w8 : IntKind.i64.wrap ((y : Int) + 8) = (y : Int) + 8 := by rw [IntKind.wrap_i64]; omega
    by_cases hlt : y + 8 ≤ H
    · have hle : (y : Int) + 8 ≤ (H : Int) := by omega
      have hled : decide ((y : Int) + 8 ≤ (H : Int)) = true := by simpa using hle
      have hy0 : (0 : Int) ≤ (y : Int) := by omega
      have hy1 : (y : Int) < (H : Int) := by omega
      go_wp2_with fail
      go_loopw [4] (fun i wr => ∃ x : Nat, i = .int .i64 x ∧ x ≤ W ∧ Hid (Below w.heap.size w wr) ∧ Hid (∀ x', x' < x → x' + 8 ≤ W → Sq Z y x')) (fun i _ => W + 1 - (intOf i).toNat)
      case atStart => exact ⟨0, rfl, by omega, HB, Lib.hid (fun x' h => by omega)⟩
      case round =>
        obtain ⟨wu, hwu⟩ : ∃ wu, wu = wr := ⟨_, rfl⟩
        rw [← hwu] at hrel ⊢
        clear hwu HB
        obtain ⟨x, rfl, hxW, HBx, HQx⟩ := hrel
        have wx8 : IntKind.i64.wrap ((x : Int) + 8) = (x : Int) + 8 := by rw [IntKind.wrap_i64]; omega
        obtain ⟨b, off, rfl, hb, hr⟩ := (HR.out.below HBx.out) (by omega)
        obtain ⟨B0, C0, hrow, hrd⟩ := hr y (by omega)
        by_cases hlx : x + 8 ≤ W
        · have hlex : (x : Int) + 8 ≤ (W : Int) := by omega
          have hlexd : decide ((x : Int) + 8 ≤ (W : Int)) = true := by simpa using hlex
          clear hr hrd
          go_wp2_with fail
          clear hrow
          go_loopw [5, 6] (fun bt i wr => ∃ (k : Nat) (bb : Bool), i = .int .i64 k ∧ bt = .bool bb ∧ k ≤ 64 ∧ Hid (Below w.heap.size w wr) ∧ Hid (bb = true → Sq Z y x)) (fun _ i _ => 64 - (intOf i).toNat)
          case atStart => exact ⟨0, false, rfl, rfl, by omega, HBx, Lib.hid (fun h => by cases h)⟩
          case round =>
            obtain ⟨wk, hwk⟩ : ∃ wk, wk = wr := ⟨_, rfl⟩
            rw [← hwk] at hrel ⊢
            clear hwk HBx
            obtain ⟨k, bb, rfl, rfl, hk, HBk, HQk⟩ := hrel
            by_cases hlk : k < 64 ∧ bb = false
            · obtain ⟨hlk, rfl⟩ := hlk
              have hki : (k : Int) < 64 := by omega
              obtain ⟨b', off', e0, _, hr⟩ := (HR.out.below HBk.out) (by omega)
              injection e0 with e0
              injection e0 with e0 e1 _
              subst e0 e1
              obtain ⟨q, hq⟩ : ∃ q, q = k / 8 := ⟨_, rfl⟩
              obtain ⟨m, hm⟩ : ∃ m, m = k % 8 := ⟨_, rfl⟩
              have eq1 : (k : Int).tdiv 8 = (q : Int) := by rw [Int.tdiv_eq_ediv_of_nonneg (by omega)]; omega
              have eq1' : (k : Int) / 8 = (q : Int) := by omega
              have eq2 : (k : Int).tmod 8 = (m : Int) := by rw [Int.tmod_eq_emod_of_nonneg (by omega)]; omega
              have eq2' : (k : Int) % 8 = (m : Int) := by omega
              obtain ⟨yq, hyq⟩ : ∃ v, v = y + q := ⟨_, rfl⟩
              obtain ⟨xm, hxm⟩ : ∃ v, v = x + m := ⟨_, rfl⟩
              have w1 : IntKind.i64.wrap ((y : Int) + (q : Int)) = (yq : Int) := by rw [IntKind.wrap_i64]; omega
              have w2 : IntKind.i64.wrap ((x : Int) + (m : Int)) = (xm : Int) := by rw [IntKind.wrap_i64]; omega
              have w3 : IntKind.i64.wrap (q : Int) = (q : Int) := by rw [IntKind.wrap_i64]; omega
              obtain ⟨R1, C1, hrow1, hrd1⟩ := hr yq (by omega)
              obtain ⟨R2, C2, hrow2, hrd2⟩ := hr y (by omega)
              obtain ⟨b1, o1, rfl, _, hc1⟩ := hrd1 (by omega)
              obtain ⟨b2, o2, rfl, _, hc2⟩ := hrd2 (by omega)
              have cx1 := hc1 xm (by omega)
              have cx2 := hc2 x (by omega)
              dsimp only at cx1 cx2
              obtain ⟨v1, hv1⟩ : ∃ v, v = Z yq xm := ⟨_, rfl⟩
              obtain ⟨v2, hv2⟩ : ∃ v, v = Z y x := ⟨_, rfl⟩
              rw [← hv1] at cx1
              rw [← hv2] at cx2
              have i1 : (0 : Int) ≤ (yq : Int) := by omega
              have i2 : (yq : Int) < (H : Int) := by omega
              have i3 : (0 : Int) ≤ (xm : Int) := by omega
              have i4 : (xm : Int) < (W : Int) := by omega
              have i5 : (0 : Int) ≤ (x : Int) := by omega
              have i6 : (x : Int) < (W : Int) := by omega
              have hne : ∀ X, (binOp .neq 4 (.bool v1) (.bool v2)).run Try.prog X = .ok (.bool (v1 != v2)) X := fun X => by cases v1 <;> cases v2 <;> rfl
              obtain ⟨bn, hbn⟩ : ∃ bn, bn = (v1 != v2) := ⟨_, rfl⟩
              rw [← hbn] at hne
              have hne2 : (v1 != v2) = bn := hbn.symm
              have HQ2 : Hid (bn = true → Sq Z y x) := Lib.hid (fun e => ⟨k, hlk, by
                rw [hbn, bne_iff_ne] at e
                rw [← hq, ← hm, ← hyq, ← hxm, ← hv1, ← hv2]; exact e⟩)
              have HBn : Hid (∀ n, Hid (Below w.heap.size w (wk.drewN n))) := Lib.hid (fun n => Lib.hid (Go.Qz.below_drewN HBk.out n))
              clear hr hrd1 hrd2 hc1 hc2 hq hm hyq hxm hv1 hv2 hbn HQk
              go_wp2_with fail
              go_quiet (fail)
              go_wp2_with fail
              go_roundw
              case rel => exact ⟨k + 1, bn, by go_num, rfl, by omega, HBn.out _, HQ2⟩
              case measure => simp [intOf]; omega
            · have hcase : (decide ((k : Int) < 64) && !bb) = false := by cases bb <;> simp_all <;> omega
              cases bb
              · have hk64 : k = 64 := by
                  by_cases h : k < 64
                  · exact absurd ⟨h, rfl⟩ hlk
                  · omega
                subst hk64
                go_wp2_with fail
                go_ret
                exact RetB.mk false (fun h => by cases h) HBk.out
              · have HQ3 : Hid (∀ x', x' < x + 1 → x' + 8 ≤ W → Sq Z y x') := Lib.hid (fun x' h1 h2 => by
                  by_cases e : x' = x
                  · rw [e]; exact HQk.out rfl
                  · exact HQx.out x' (by omega) h2)
                obtain ⟨kb, hkb⟩ : ∃ kb : Bool, kb = decide ((k : Int) < 64) := ⟨_, rfl⟩
                have hkd : decide ((k : Int) < 64) = kb := hkb.symm
                clear hcase hlk hkb
                cases kb
                all_goals
                  go_wp2_with fail
                  go_roundw
                  case rel => exact ⟨x + 1, by go_num, by omega, HBk, HQ3⟩
                  case measure => simp [intOf]; omega
        · have hlex : ¬ (x : Int) + 8 ≤ (W : Int) := by omega
          have hlexd : decide ((x : Int) + 8 ≤ (W : Int)) = false := by simpa using hlex
          have HQ4 : Hid (∀ y' x, y' < y + 1 → y' + 8 ≤ H → x + 8 ≤ W → Sq Z y' x) := Lib.hid (fun y' x2 h1 h2 h3 => by
            by_cases e : y' = y
            · rw [e]; exact HQx.out x2 (by omega) h3
            · exact HQ.out y' x2 (by omega) h2 h3)
          clear hr hrd hlex
          go_wp2_with fail
          go_roundw
          case rel => exact ⟨y + 1, by go_num, by omega, HBx, HQ4⟩
          case measure => simp [intOf]; omega
    · have hle : ¬ (y : Int) + 8 ≤ (H : Int) := by omega
      have hled : decide ((y : Int) + 8 ≤ (H : Int)) = false := by simpa using hle
      have HQ5 : Hid (Squares Z H W) := Lib.hid (fun y' x h1 h2 => HQ.out y' x (by omega) h1 h2)
      clear hle
      go_wp2_with fail
      go_ret
      exact RetB.mk true (fun _ => HQ5.out) HB.out

set_option maxRecDepth 100000 in
theorem hbCap (v : Value) (x m : Nat) (hm : 2 ≤ m) (w : World) : Calls Try.prog 83 #[v, .int .i64 x, .int .i64 2, .int .i64 m] w fun e w' => ∃ r : Nat, e = .returned (.int .i64 r) ∧ 2 ≤ r ∧ r ≤ m ∧ w = w' := by
  by_cases h1 : x < 2
  · have q1 : decide ((x : Int) < 2) = true := by simp; omega
    go_enter Try.func83, Try.ntmps83
    go_wp2_with fail
    go_ret
    exact ⟨2, rfl, by omega, by omega, rfl⟩
  · have q1 : decide ((x : Int) < 2) = false := by simp; omega
    by_cases h2 : m < x
    · have q2 : decide ((m : Int) < (x : Int)) = true := by simp; omega
      have q3 : decide (m < x) = true := by simp; omega
      go_enter Try.func83, Try.ntmps83
      go_wp2_with fail
      go_ret
      exact ⟨m, rfl, by omega, by omega, rfl⟩
    · have q2 : decide ((m : Int) < (x : Int)) = false := by simp; omega
      have q3 : decide (m < x) = false := by simp; omega
      go_enter Try.func83, Try.ntmps83
      go_wp2_with fail
      go_ret
      exact ⟨x, rfl, by omega, by omega, rfl⟩
end Go.Proofs.Ythgnmcofclndlaa
