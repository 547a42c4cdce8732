/-
  Pictures of two grays: pxPicture, PXDraw, walked. No condition beyond the bounds that each theorem states.
-/
import Derived.Test.YthgnmcofclndlaaPYB
import Derived.Test.YthgnmcofclndlaaPSH
import Derived.BigRegion
namespace Go.Proofs.Ythgnmcofclndlaa
open Go.RowKit Go.Qz
set_option linter.unusedVariables false

def PicRows (lo hi : Nat) (w : World) (e : Ending) (w' : World) : Prop := ∃ b W H Z, e = .returned (.slice (some ⟨b, 0, none⟩) H H) ∧ Hid (lo ≤ W ∧ W ≤ hi ∧ lo ≤ H ∧ H ≤ hi) ∧ Hid (Rows2 w' (some ⟨b, 0, none⟩) H W Z) ∧ Below w.heap.size w w'
set_option maxRecDepth 100000 in
set_option maxHeartbeats 1600000 in
theorem pxPicture (x y : Nat) (hx : x < 256) (hy : y < 256) (z : Nat → Bool) (A : Option Addr) (n c : Nat) (hn : n < 4294967296) (w : World) (h : Rd w A n (fun j => .bool (z j))) :
    Calls Try.prog 13 #[.slice A n c, .int .u8 x, .int .u8 y] w (PicRows 1 100 w) := by
  obtain ⟨W, hW⟩ : ∃ W, W = 1 + x % 100 := ⟨_, rfl⟩
  obtain ⟨H, hH⟩ : ∃ H, H = 1 + y % 100 := ⟨_, rfl⟩
  have e1 : (x : Int).tmod 100 = ((x % 100 : Nat) : Int) := by rw [Int.tmod_eq_emod_of_nonneg (by omega)]; simp
  have e2 : (y : Int).tmod 100 = ((y % 100 : Nat) : Int) := by rw [Int.tmod_eq_emod_of_nonneg (by omega)]; simp
  obtain ⟨p, hp⟩ : ∃ p, p = x % 100 := ⟨_, rfl⟩
  obtain ⟨q, hq⟩ : ∃ q, q = y % 100 := ⟨_, rfl⟩
  rw [← hp] at e1 hW
  rw [← hq] at e2 hH
  have e1' : (x : Int) % 100 = (p : Int) := by omega
  have e2' : (y : Int) % 100 = (q : Int) := by omega
  have w1 : IntKind.i64.wrap (1 + (p : Int)) = (W : Int) := by rw [IntKind.wrap_i64]; omega
  have w2 : IntKind.i64.wrap (1 + (q : Int)) = (H : Int) := by rw [IntKind.wrap_i64]; omega
  have HB := Lib.hid (biRows2 W H (by omega) (by omega) (by omega) (by omega) z A n c hn w h)
  have HWH : Hid (1 ≤ W ∧ W ≤ 100 ∧ 1 ≤ H ∧ H ≤ 100) := Lib.hid (by omega)
  clear hW hH hp hq h
  go_enter Try.func13, Try.ntmps13
  go_wp2_with fail
  refine HB.out.mono ?_
  rintro e w1 ⟨b, rfl, hr, hb⟩
  have HB1 := Lib.hid hb
  clear hb HB
  go_wp2_with fail
  go_ret
  exact ⟨b, W, H, _, rfl, HWH, hr, HB1.out⟩
set_option maxRecDepth 100000 in
set_option maxHeartbeats 1600000 in
theorem pxLarge (x y : Nat) (hx : x < 256) (hy : y < 256) (z : Nat → Bool) (A : Option Addr) (n c : Nat) (hn : n < 4294967296) (w : World) (h : Rd w A n (fun j => .bool (z j))) :
    Calls Try.prog 19 #[.slice A n c, .int .u8 x, .int .u8 y] w (PicRows 40 120 w) := by
  obtain ⟨W, hW⟩ : ∃ W, W = 40 + x % 81 := ⟨_, rfl⟩
  obtain ⟨H, hH⟩ : ∃ H, H = 40 + y % 81 := ⟨_, rfl⟩
  have e1 : (x : Int).tmod 81 = ((x % 81 : Nat) : Int) := by rw [Int.tmod_eq_emod_of_nonneg (by omega)]; simp
  have e2 : (y : Int).tmod 81 = ((y % 81 : Nat) : Int) := by rw [Int.tmod_eq_emod_of_nonneg (by omega)]; simp
  obtain ⟨p, hp⟩ : ∃ p, p = x % 81 := ⟨_, rfl⟩
  obtain ⟨q, hq⟩ : ∃ q, q = y % 81 := ⟨_, rfl⟩
  rw [← hp] at e1 hW
  rw [← hq] at e2 hH
  have e1' : (x : Int) % 81 = (p : Int) := by omega
  have e2' : (y : Int) % 81 = (q : Int) := by omega
  have w1 : IntKind.i64.wrap (40 + (p : Int)) = (W : Int) := by rw [IntKind.wrap_i64]; omega
  have w2 : IntKind.i64.wrap (40 + (q : Int)) = (H : Int) := by rw [IntKind.wrap_i64]; omega
  have HB := Lib.hid (biRows2 W H (by omega) (by omega) (by omega) (by omega) z A n c hn w h)
  have HWH : Hid (40 ≤ W ∧ W ≤ 120 ∧ 40 ≤ H ∧ H ≤ 120) := Lib.hid (by omega)
  clear hW hH hp hq h
  go_enter Try.func19, Try.ntmps19
  go_wp2_with fail
  refine HB.out.mono ?_
  rintro e w1 ⟨b, rfl, hr, hb⟩
  have HB1 := Lib.hid hb
  clear hb HB
  go_wp2_with fail
  go_ret
  exact ⟨b, W, H, _, rfl, HWH, hr, HB1.out⟩

/-- The grays of a picture, one row behind the other. -/
def gr (Z : Nat → Nat → Bool) (W d l j : Nat) : Nat := if Z (j / W) (j % W) then d else l
theorem gr_at {Z : Nat → Nat → Bool} {W d l y x : Nat} (hx : x < W) : gr Z W d l (y * W + x) = if Z y x then d else l := by
  unfold gr
  have hW : 0 < W := by omega
  rw [Nat.mul_comm, Nat.mul_add_div hW, Nat.div_eq_of_lt hx, Nat.add_zero, Nat.mul_add_mod, Nat.mod_eq_of_lt hx]
def grs (Z : Nat → Nat → Bool) (W d l n : Nat) : List Value := (List.range n).map fun j => .int .u8 (gr Z W d l j : Nat)
theorem grs_succ (Z : Nat → Nat → Bool) (W d l n : Nat) : grs Z W d l (n + 1) = grs Z W d l n ++ [.int .u8 (gr Z W d l n : Nat)] := by unfold grs; rw [List.range_succ, List.map_append]; rfl
def DrawPost (Z : Nat → Nat → Bool) (W H d l : Nat) (w : World) (e : Ending) (w' : World) : Prop := ∃ A N c, e = .returned (.tuple #[.int .i64 W, .int .i64 H, .slice A N c]) ∧ Hid (N = W * H ∧ N ≤ c ∧ c ≤ maxLen) ∧ Hid (Rd w' A N (fun j => .int .u8 (gr Z W d l j : Nat))) ∧ Below w.heap.size w w'

set_option maxRecDepth 100000 in
set_option maxHeartbeats 6400000 in
theorem pxDraw (Z : Nat → Nat → Bool) (W H d l c : Nat) (hW0 : 1 ≤ W) (hW : W ≤ 200) (hH0 : 1 ≤ H) (hH : H ≤ 200) (A : Option Addr) (w : World) (h : Rows2 w A H W Z) :
    Calls Try.prog 16 #[.slice A H c, .int .i64 1, .agg #[.int .i64 0, .int .i64 0, .int .i64 0, .int .i64 0], .int .u8 d, .int .u8 l] w (DrawPost Z W H d l w) := by
  have HR := Lib.hid h
  obtain ⟨b, off, rfl, hb, hr⟩ := h (by omega)
  obtain ⟨B0, C0, h00, _⟩ := hr 0 (by omega)
  rw [Nat.add_zero] at h00
  obtain ⟨E, hE⟩ : ∃ E, E = w.heap.size := ⟨_, rfl⟩
  obtain ⟨W0, hW0'⟩ : ∃ W0, W0 = w.alloc (.cells #[.int .i64 0, .int .i64 0, .int .i64 0, .int .i64 0] 41) := ⟨_, rfl⟩
  have HB0 : Hid (Below E w W0) := Lib.hid (by rw [hW0', hE]; exact (Below.refl _ _).alloc (Nat.le_refl _) _)
  have HA0 : Hid (Arr W0 41 E [.int .i64 0, .int .i64 0, .int .i64 0, .int .i64 0]) := Lib.hid (by rw [hW0', hE]; exact Arr.new w _ _)
  have h00' := (HB0.out.cell (p := ⟨b, off, none⟩) (by rw [hE]; exact hb)).trans h00
  have d0 := HA0.out.cell? 0
  have d1 := HA0.out.cell? 1
  have d2 := HA0.out.cell? 2
  have d3 := HA0.out.cell? 3
  simp only [List.getElem?_cons_zero, List.getElem?_cons_succ] at d0 d1 d2 d3
  obtain ⟨N, hN⟩ : ∃ N, N = W * H := ⟨_, rfl⟩
  have hNl : N ≤ 40000 := by rw [hN]; exact Nat.mul_le_mul hW hH
  have m1 : (W : Int) * (H : Int) = (N : Int) := by rw [hN]; simp
  have m2 : IntKind.i64.wrap (N : Int) = (N : Int) := by rw [IntKind.wrap_i64]; omega
  have m3 : IntKind.i64.wrap (W : Int) = (W : Int) := by rw [IntKind.wrap_i64]; omega
  have m4 : IntKind.i64.wrap (H : Int) = (H : Int) := by rw [IntKind.wrap_i64]; omega
  have hmk := fun X => run_make0 (P := Try.prog) 22 5 (.int .u8 0) 1 Try.underlying22 Try.infoByte rfl (by decide) N (by omega) .i64 .i64 N rfl X
  have hH1 : (0 : Int) < (H : Int) := by omega
  have hH2 : decide (0 < H) = true := by simp; omega
  have HE := Lib.hid hE
  have HW0 := Lib.hid hW0'
  have HNN := Lib.hid hN
  clear h hr h00 hE hW0' hN
  go_enter Try.func16, Try.ntmps16
  go_upto_region 1 with (fail)
  rw [← HE.out, ← HW0.out]
  go_wp2_with fail
  go_quiet (fail)
  obtain ⟨W1, hW1⟩ : ∃ W1, W1 = W0.drewN nq := ⟨_, rfl⟩
  rw [← hW1]
  have HB1 : Hid (Below E w W1) := Lib.hid (by rw [hW1]; exact Go.Qz.below_drewN HB0.out nq)
  have HA1 : Hid (Arr W1 41 E [.int .i64 0, .int .i64 0, .int .i64 0, .int .i64 0]) := Lib.hid (by rw [hW1]; exact HA0.out)
  obtain ⟨W2, hW2⟩ : ∃ W2, W2 = W1.alloc (.cells (zeros N (.int .u8 0)) 5) := ⟨_, rfl⟩
  have hb2 : Below W1.heap.size W1 W2 := by rw [hW2]; exact (Below.refl _ _).alloc (Nat.le_refl _) _
  have HO2 : Hid (W2.ownsRow (E + 1) 5 1 (.slice (some ⟨W1.heap.size, 0, none⟩) 0 N) 0 (grs Z W d l 0)) := Lib.hid (by rw [hW2]; exact own_make0 W1 _ _ N (E + 1) (by have := HA1.out.lt; omega) (by unfold maxLen; omega))
  have HB2 : Hid (Below E w W2) := Lib.hid (HB1.out.trans (hb2.mono (by have := HB1.out.size; have := HE.out; omega)))
  have HA2 : Hid (Arr W2 41 E [.int .i64 0, .int .i64 0, .int .i64 0, .int .i64 0]) := Lib.hid (HA1.out.below hb2 HA1.out.lt)
  have HSZ2 : Hid (E + 1 ≤ W2.heap.size) := Lib.hid HA2.out.lt
  have HW2 := Lib.hid hW2
  clear hW1 hW2 hb2 d0 d1 d2 d3 h00' hmk m1 m2 HB0 HA0 HB1
  have hmk2 := fun X => run_make0 (P := Try.prog) 22 5 (.int .u8 0) 1 Try.underlying22 Try.infoByte rfl (by decide) N (by omega) .i64 .i64 N rfl X
  have m1 : (W : Int) * (H : Int) = (N : Int) := by rw [HNN.out]; simp
  have m2 : IntKind.i64.wrap (N : Int) = (N : Int) := by rw [IntKind.wrap_i64]; omega
  go_wp2_with fail
  rw [← HW2.out]
  clear hmk2 m1 m2
  obtain ⟨v0, hv0⟩ : ∃ v0 : Value, v0 = .slice (some ⟨W1.heap.size, 0, none⟩) 0 N := ⟨_, rfl⟩
  rw [← hv0] at HO2 ⊢
  clear hv0
  go_loopw [16, 17] (fun v i wr => ∃ y m : Nat, y ≤ H ∧ i = .int .i64 y ∧ Hid (m = y * W) ∧ Hid (wr.ownsRow (E + 1) 5 1 v m (grs Z W d l m)) ∧ Hid (Below (E + 1) W2 wr)) (fun _ i _ => H - (intOf i).toNat)
  case atStart => exact ⟨0, 0, by omega, rfl, Lib.hid (by simp), HO2, Lib.hid (Below.refl _ _)⟩
  case round =>
    obtain ⟨wo, hwo⟩ : ∃ wo, wo = wr := ⟨_, rfl⟩
    rw [← hwo] at hrel ⊢
    clear hwo HO2
    obtain ⟨y, m, hy, rfl, HM, HO, HB⟩ := hrel
    by_cases hlt : y < H
    · have hy0 : (0 : Int) ≤ (y : Int) := by omega
      have hy1 : (y : Int) < (H : Int) := by omega
      go_wp2_with fail
      go_loopw [16, 18] (fun v i wr => ∃ x : Nat, x ≤ W ∧ i = .int .i64 x ∧ Hid (wr.ownsRow (E + 1) 5 1 v (m + x) (grs Z W d l (m + x))) ∧ Hid (Below (E + 1) W2 wr)) (fun _ i _ => W - (intOf i).toNat)
      case atStart => exact ⟨0, by omega, rfl, HO, HB⟩
      case round =>
        obtain ⟨wu, hwu⟩ : ∃ wu, wu = wr := ⟨_, rfl⟩
        rw [← hwu] at hrel ⊢
        clear hwu HO HB
        obtain ⟨x, hx, rfl, HOx, HBx⟩ := hrel
        by_cases hlt2 : x < W
        · have hx0 : (0 : Int) ≤ (x : Int) := by omega
          have hx1 : (x : Int) < (W : Int) := by omega
          have hAx := HA2.out.below HBx.out (Nat.lt_succ_self E)
          have d0 := hAx.cell? 0
          have d2 := hAx.cell? 2
          simp only [List.getElem?_cons_zero, List.getElem?_cons_succ] at d0 d2
          have hbw : Below w.heap.size w wu := by rw [← HE.out]; exact HB2.out.trans (HBx.out.mono (by omega))
          obtain ⟨b', off', e0, _, hrr⟩ := (HR.out.below hbw) (by omega)
          injection e0 with e0
          injection e0 with e0 e1 _
          subst e0 e1
          obtain ⟨Bq, Cq, hrow, hrd⟩ := hrr y hlt
          obtain ⟨cb, co, rfl, _, hcc⟩ := hrd (by omega)
          have ccx := hcc x hlt2
          dsimp only at ccx
          have hg := gr_at (Z := Z) (W := W) (d := d) (l := l) (y := y) (x := x) hlt2
          rw [← HM.out] at hg
          obtain ⟨bv, hbv⟩ : ∃ bv, bv = Z y x := ⟨_, rfl⟩
          rw [← hbv] at ccx hg
          have HG := Lib.hid hg
          have wx : IntKind.i64.wrap (x : Int) = (x : Int) := by rw [IntKind.wrap_i64]; omega
          have wy : IntKind.i64.wrap (y : Int) = (y : Int) := by rw [IntKind.wrap_i64]; omega
          have tx : (x : Int).tdiv 1 = (x : Int) := Int.tdiv_one _
          have ty : (y : Int).tdiv 1 = (y : Int) := Int.tdiv_one _
          have sx : (x : Int) - 0 = (x : Int) := by omega
          have sy : (y : Int) - 0 = (y : Int) := by omega
          have ow : (1 : Int) * (W : Int) = (W : Int) := by omega
          have oh : (1 : Int) * (H : Int) = (H : Int) := by omega
          obtain ⟨vv, hvv⟩ : ∃ vv, vv = u16 := ⟨_, rfl⟩
          rw [← hvv] at HOx ⊢
          have HN2 : Hid (m + x ≤ 40000) := Lib.hid (by
            have h1 : y * W ≤ 200 * 200 := Nat.mul_le_mul (by omega) hW
            have h2 : (y + 1) * W ≤ H * W := Nat.mul_le_mul_right _ hlt
            have h3 : H * W ≤ 200 * 200 := Nat.mul_le_mul hH hW
            rw [Nat.add_mul, Nat.one_mul] at h2
            have := HM.out; omega)
          clear hrr hrd hcc hg hbv hvv hbw hAx
          go_wp2_with fail
          go_quiet (fail)
          obtain ⟨n1, hn1⟩ : ∃ n1, n1 = nq := ⟨_, rfl⟩
          rw [← hn1]
          clear hn1
          go_wp2_with fail
          go_quiet (fail)
          obtain ⟨W5, hW5⟩ : ∃ W5, W5 = (wu.drewN n1).drewN nq := ⟨_, rfl⟩
          have HO5 : Hid (W5.ownsRow (E + 1) 5 1 vv (m + x) (grs Z W d l (m + x))) := Lib.hid (by rw [hW5]; exact HOx.out)
          have HB5 : Hid (Below (E + 1) W2 W5) := Lib.hid (by rw [hW5]; exact Go.Qz.below_drewN (Go.Qz.below_drewN HBx.out n1) nq)
          have HSZ : Hid (E + 1 ≤ W5.heap.size) := Lib.hid (by have := HB5.out.size; have := HSZ2.out; omega)
          rw [← hW5]
          clear hW5 d0 d2 ccx hrow wx wy tx ty sx sy ow oh HOx HBx
          cases bv
          · have HGF : Hid (gr Z W d l (m + x) = l) := Lib.hid HG.out
            clear HG
            go_wp2_with (at_builtin; refine wpList_push _ _ 22 (E + 1) 5 (.int .u8 0) 1 _ (m + x) _ (.int .u8 l) rfl rfl rfl rfl Try.underlying22 Try.infoByte rfl rfl (by decide) HO5.out (by have := HN2.out; omega) HSZ.out ?_)
            intro v' w' hown' hg' hb'
            have HO3 : Hid (w'.ownsRow (E + 1) 5 1 v' (m + (x + 1)) (grs Z W d l (m + (x + 1)))) := Lib.hid (by
              rw [← Nat.add_assoc, grs_succ, HGF.out]; exact hown')
            have HB3 := Lib.hid (HB5.out.trans hb')
            clear hown' hg' hb' HGF
            go_wp2_with fail
            go_roundw
            case rel => exact ⟨x + 1, by omega, by go_num, HO3, HB3⟩
            case measure => simp [intOf]; omega
          · have HGF : Hid (gr Z W d l (m + x) = d) := Lib.hid HG.out
            clear HG
            go_wp2_with (at_builtin; refine wpList_push _ _ 22 (E + 1) 5 (.int .u8 0) 1 _ (m + x) _ (.int .u8 d) rfl rfl rfl rfl Try.underlying22 Try.infoByte rfl rfl (by decide) HO5.out (by have := HN2.out; omega) HSZ.out ?_)
            intro v' w' hown' hg' hb'
            have HO3 : Hid (w'.ownsRow (E + 1) 5 1 v' (m + (x + 1)) (grs Z W d l (m + (x + 1)))) := Lib.hid (by
              rw [← Nat.add_assoc, grs_succ, HGF.out]; exact hown')
            have HB3 := Lib.hid (HB5.out.trans hb')
            clear hown' hg' hb' HGF
            go_wp2_with fail
            go_roundw
            case rel => exact ⟨x + 1, by omega, by go_num, HO3, HB3⟩
            case measure => simp [intOf]; omega
        · obtain rfl : x = W := by omega
          have HM2 : Hid (m + x = (y + 1) * x) := Lib.hid (by rw [Nat.add_mul, Nat.one_mul]; have := HM.out; omega)
          go_wp2_with fail
          go_roundw
          case rel => exact ⟨y + 1, m + x, by omega, by go_num, HM2, HOx, HBx⟩
          case measure => simp [intOf]; omega
    · obtain rfl : y = H := by omega
      obtain ⟨A', c', rfl, h1, h2, h3⟩ := Rd.of_own HO.out
      have HMN : Hid (m = W * y) := Lib.hid (by rw [Nat.mul_comm]; exact HM.out)
      have HQ : Hid (m = W * y ∧ m ≤ c' ∧ c' ≤ maxLen) := Lib.hid ⟨HMN.out, h1, h2⟩
      have HRD : Hid (Rd wo A' m (fun j => .int .u8 (gr Z W d l j : Nat))) := Lib.hid (h3.congr fun j hj => by simp [grs, List.getD_eq_getElem?_getD, hj])
      have HBB : Hid (Below w.heap.size w wo) := Lib.hid (by rw [← HE.out]; exact HB2.out.trans (HB.out.mono (by omega)))
      clear h1 h2 h3
      go_wp2_with fail
      refine bodyPost_ret (v := .tuple #[.int .i64 W, .int .i64 y, .slice A' m c']) (by simp [results, Try.results16, go_sem]) rfl ⟨A', m, c', rfl, HQ, HRD, HBB.out⟩
end Go.Proofs.Ythgnmcofclndlaa
