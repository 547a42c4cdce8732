/-
  Pictures of two grays: PXBoth, pxMiddle, pxTwo, PXDraw, walked. No condition beyond the bounds that each theorem states.
-/
import Derived.Test.YthgnmcofclndlaaPYA
import Derived.Test.YthgnmcofclndlaaBGR
import Derived.Deep.DeepCutAuto
namespace Go.Proofs.Ythgnmcofclndlaa
open Go.RowKit Go.Qz
set_option linter.unusedVariables false

def Both (z : Nat → Bool) (a t : Nat) : Prop := ∃ i, a < i ∧ i < t ∧ z i ≠ z a
set_option maxRecDepth 100000 in
set_option maxHeartbeats 3200000 in
theorem pxBoth (z : Nat → Bool) (n c a t : Nat) (A : Option Addr) (ht : t ≤ n) (hn : n ≤ 100000) (ha : a ≤ 100000) (w : World) (h : Rd w A n (fun j => .bool (z j))) :
    Calls Try.prog 23 #[.slice A n c, .int .i64 a, .int .i64 t] w (RetB (fun r => r = true → Both z a t) w) := by
  have HR := Lib.hid h
  have e1 : IntKind.i64.wrap ((a : Int) + 1) = ((a + 1 : Nat) : Int) := by rw [IntKind.wrap_i64]; omega
  obtain ⟨a1, ha1⟩ : ∃ a1, a1 = a + 1 := ⟨_, rfl⟩
  rw [← ha1] at e1
  clear h
  go_enter Try.func23, Try.ntmps23
  go_wp2_with fail
  go_loopw [7] (fun i wr => ∃ k : Nat, a1 ≤ k ∧ i = .int .i64 k ∧ k ≤ a1 + t ∧ Hid (Below w.heap.size w wr)) (fun i _ => a1 + t - (intOf i).toNat)
  case atStart => exact ⟨a1, Nat.le_refl _, by first | rfl | (congr 1; omega), by omega, Lib.hid (Below.refl _ _)⟩
  case round =>
    obtain ⟨wo, hwo⟩ : ∃ wo, wo = wr := ⟨_, rfl⟩
    rw [← hwo] at hrel ⊢
    clear hwo
    obtain ⟨k, hk, rfl, hkt, HB⟩ := hrel
    by_cases hlt : k < t
    · have hk0 : (0 : Int) ≤ (k : Int) := by omega
      have hk1 : (k : Int) < (t : Int) := by omega
      have hk2 : (k : Int) < (n : Int) := by omega
      have ha0 : (0 : Int) ≤ (a : Int) := by omega
      have ha2 : (a : Int) < (n : Int) := by omega
      obtain ⟨b, off, rfl, hb, hc⟩ := (HR.out.below HB.out) (by omega)
      have ck := hc k (by omega)
      have ca := hc a (by omega)
      dsimp only at ck ca
      obtain ⟨x, hx⟩ : ∃ x, x = z k := ⟨_, rfl⟩
      obtain ⟨y, hy⟩ : ∃ y, y = z a := ⟨_, rfl⟩
      rw [← hx] at ck
      rw [← hy] at ca
      have HBn : Hid (∀ n, Hid (Below w.heap.size w (wo.drewN n))) := Lib.hid (fun n => Lib.hid (Go.Qz.below_drewN HB.out n))
      by_cases hxy : x = y
      · have hne : ∀ X, (binOp .neq 4 (.bool x) (.bool y)).run Try.prog X = .ok (.bool false) X := fun X => by subst hxy; cases x <;> rfl
        have hne2 : (x != y) = false := by simp [hxy]
        clear hc hx hy hxy
        go_wp2_with fail
        go_quiet (fail)
        go_wp2_with fail
        go_roundw
        case rel => exact ⟨k + 1, by omega, by go_num, by omega, HBn.out _⟩
        case measure => simp [intOf]; omega
      · have hne : ∀ X, (binOp .neq 4 (.bool x) (.bool y)).run Try.prog X = .ok (.bool true) X := fun X => by cases x <;> cases y <;> first | rfl | exact absurd rfl hxy
        have hne2 : (x != y) = true := by simp [hxy]
        have HQ : Hid (Both z a t) := Lib.hid ⟨k, by omega, hlt, by rw [← hx, ← hy]; exact hxy⟩
        clear hc hx hy hxy
        go_wp2_with fail
        go_quiet (fail)
        go_wp2_with fail
        go_ret
        exact RetB.mk true (fun _ => HQ.out) (HBn.out _).out
    · have hk1 : ¬ (k : Int) < (t : Int) := by omega
      go_wp2_with fail
      go_ret
      exact RetB.mk false (fun h => by cases h) HB.out

def Middle (Z : Nat → Nat → Bool) (H W : Nat) : Prop := ∀ y, y < H → Both (Z y) (W / 5) (4 * W / 5)
set_option maxRecDepth 100000 in
set_option maxHeartbeats 3200000 in
theorem pxMiddle (Z : Nat → Nat → Bool) (H W c : Nat) (A : Option Addr) (hH : H ≤ 1000) (hW : W ≤ 1000) (w : World) (h : Rows2 w A H W Z) :
    Calls Try.prog 14 #[.slice A H c] w (RetB (fun r => r = true → Middle Z H W) w) := by
  have HR := Lib.hid h
  obtain ⟨q, hq⟩ : ∃ q, q = W / 5 := ⟨_, rfl⟩
  obtain ⟨t, ht⟩ : ∃ t, t = 4 * W / 5 := ⟨_, rfl⟩
  have e1 : (W : Int).tdiv 5 = (q : Int) := by rw [Int.tdiv_eq_ediv_of_nonneg (by omega)]; omega
  have e2 : (4 * (W : Int)).tdiv 5 = (t : Int) := by rw [Int.tdiv_eq_ediv_of_nonneg (by omega)]; omega
  have w1 : IntKind.i64.wrap (q : Int) = (q : Int) := by rw [IntKind.wrap_i64]; omega
  have w2 : IntKind.i64.wrap (t : Int) = (t : Int) := by rw [IntKind.wrap_i64]; omega
  have w3 : IntKind.i64.wrap (4 * (W : Int)) = 4 * (W : Int) := by rw [IntKind.wrap_i64]; omega
  have htW : t ≤ W := by omega
  have hqb : q ≤ 1000 := by omega
  have HQT : Hid (q = W / 5 ∧ t = 4 * W / 5) := Lib.hid ⟨hq, ht⟩
  clear h hq ht
  go_enter Try.func14, Try.ntmps14
  go_wp2_with fail
  go_loopw [3] (fun i wr => ∃ k : Nat, k ≤ H ∧ i = .int .i64 k ∧ Hid (Below w.heap.size w wr) ∧ Hid (∀ y, y < k → Both (Z y) q t)) (fun i _ => H - (intOf i).toNat)
  case atStart => exact ⟨0, by omega, rfl, Lib.hid (Below.refl _ _), Lib.hid (fun y hy => by omega)⟩
  case round =>
    obtain ⟨wo, hwo⟩ : ∃ wo, wo = wr := ⟨_, rfl⟩
    rw [← hwo] at hrel ⊢
    clear hwo
    obtain ⟨k, hk, rfl, HB, HM⟩ := hrel
    by_cases hlt : k < H
    · have hk0 : (0 : Int) ≤ (k : Int) := by omega
      have hk1 : (k : Int) < (H : Int) := by omega
      obtain ⟨b, off, rfl, hb, hc⟩ := (HR.out.below HB.out) (by omega)
      obtain ⟨B, C, ck, hrd⟩ := hc k hlt
      have HPB := Lib.hid (pxBoth (Z k) W C q t B htW (by omega) (by omega) wo hrd)
      clear hc hrd
      go_wp2_with fail
      refine HPB.out.mono ?_
      rintro e w2 ⟨r, rfl, hr, hb2⟩
      have HB2 := Lib.hid (HB.out.trans (hb2.mono HB.out.size))
      have HR2 := Lib.hid hr
      clear hb2 hr HPB ck
      cases r
      · go_wp2_with fail
        go_ret
        exact RetB.mk false (fun h => by cases h) HB2.out
      · have HM2 : Hid (∀ y, y < k + 1 → Both (Z y) q t) := Lib.hid (fun y hy => by
          by_cases e : y = k
          · rw [e]; exact HR2.out rfl
          · exact HM.out y (by omega))
        go_wp2_with fail
        go_roundw
        case rel => exact ⟨k + 1, by omega, by go_num, HB2, HM2⟩
        case measure => simp [intOf]; omega
    · obtain rfl : k = H := by omega
      go_wp2_with fail
      go_ret
      exact RetB.mk true (fun _ => by unfold Middle; rw [← HQT.out.1, ← HQT.out.2]; exact HM.out) HB.out

def TwoOk (d l : Nat) : Prop := d + 24 ≤ l ∧ l < 256
def TwoGrays (w : World) (e : Ending) (w' : World) : Prop := ∃ d l : Nat, e = .returned (.tuple #[.int .u8 d, .int .u8 l]) ∧ TwoOk d l ∧ Below w.heap.size w w'
set_option maxRecDepth 100000 in
set_option maxHeartbeats 3200000 in
theorem pxTwo (x y : Nat) (hx : x < 256) (hy : y < 256) (w : World) : Calls Try.prog 15 #[.int .u8 x, .int .u8 y] w (TwoGrays w) := by
  obtain ⟨d, hd⟩ : ∃ d, d = x % 232 := ⟨_, rfl⟩
  obtain ⟨m, hm⟩ : ∃ m, m = 232 - d := ⟨_, rfl⟩
  obtain ⟨r, hr⟩ : ∃ r, r = y % m := ⟨_, rfl⟩
  have hm0 : 0 < m := by omega
  have hrm : r < m := by rw [hr]; exact Nat.mod_lt _ hm0
  have e1 : (x : Int).tmod 232 = (d : Int) := by rw [Int.tmod_eq_emod_of_nonneg (by omega)]; omega
  have e1' : (x : Int) % 232 = (d : Int) := by omega
  have e2 : (y : Int).tmod (m : Int) = (r : Int) := by rw [Int.tmod_eq_emod_of_nonneg (by omega), hr]; simp
  have e2' : (y : Int) % (m : Int) = (r : Int) := by rw [hr]; simp
  have w1 : IntKind.u8.wrap (232 - (d : Int)) = (m : Int) := by rw [IntKind.wrap_u8]; omega
  have w2 : IntKind.u8.wrap ((d : Int) + 24) = (d : Int) + 24 := by rw [IntKind.wrap_u8]; omega
  have w3 : IntKind.u8.wrap ((d : Int) + 24 + (r : Int)) = ((d + 24 + r : Nat) : Int) := by rw [IntKind.wrap_u8]; omega
  obtain ⟨l, hl⟩ : ∃ l, l = d + 24 + r := ⟨_, rfl⟩
  rw [← hl] at w3
  have hok : TwoOk d l := ⟨by omega, by omega⟩
  have HOK := Lib.hid hok
  have hmz : ¬ (m : Int) = 0 := by omega
  have hmz2 : ¬ m = 0 := by omega
  clear hd hm hr hl hok
  go_enter Try.func15, Try.ntmps15
  go_wp2_with fail
  go_quiet (fail)
  go_wp2_with fail
  go_ret2
  exact ⟨d, l, rfl, HOK.out, Go.Qz.below_drewN (Below.refl _ _) _⟩
end Go.Proofs.Ythgnmcofclndlaa
