/-
  calculateThresholdForBlock, walked. No condition beyond the bounds that the theorem states.
-/
import Derived.Test.YthgnmcofclndlaaPYJ
namespace Go.Proofs.Ythgnmcofclndlaa
open Go.RowKit Go.Qz
set_option linter.unusedVariables false

def Pts (w : World) (d l G SW SH : Nat) (bp : Nat → Nat → Nat) : Prop := Grid w 79 3 G SH SW SH (fun y x => .int .i64 ((bp y x : Nat) : Int)) ∧ ∀ y x, y < SH → x < SW → d ≤ bp y x ∧ bp y x < l
/-- What has been laid of a picture: rows of squares, and squares of the next row. -/
def Done (ws : List Nat) (Z : Nat → Nat → Bool) (W H yo k j : Nat) : Prop := ∀ x y, x < W → y < H → mb ws W x y = (decide (y < min (8 * k) H ∨ yo ≤ y ∧ y < yo + 8 ∧ x < min (8 * j) W) && Z y x)
def AllPost (Z : Nat → Nat → Bool) (W H pm gm : Nat) (w : World) (e : Ending) (w' : World) : Prop := e = .returned (.tuple #[]) ∧ ∃ ws', Hid (BM w' pm gm ws' W H) ∧ Hid (∀ x y, x < W → y < H → mb ws' W x y = Z y x) ∧ Hid (Mod (· = gm) w w')

set_option maxRecDepth 100000 in
set_option maxHeartbeats 16000000 in
theorem thrAll (v : Value) (Z : Nat → Nat → Bool) (W H N d l c SW SH G pm gm : Nat) (bp : Nat → Nat → Nat) (hW0 : 40 ≤ W) (hH0 : 40 ≤ H) (hW : W ≤ 200) (hH : H ≤ 200) (hdl : TwoOk d l) (hN : N = W * H) (hSW : SW = (W + 7) / 8) (hSH : SH = (H + 7) / 8) (A : Option Addr) (w : World)
    (hb : BM w pm gm (List.replicate ((W + 31) / 32 * H) 0) W H) (hr : Rd w A N (fun j => .int .u8 ((gr Z W d l j : Nat) : Int))) (hA : ∀ a, A = some a → a.block ≠ gm) (hp : Pts w d l G SW SH bp) (hG : ∀ j, G ≤ j → j ≤ G + SH → j ≠ gm) :
    Calls Try.prog 82 #[v, .slice A N c, .int .i64 SW, .int .i64 SH, .int .i64 W, .int .i64 H, .slice (some ⟨G, 0, none⟩) SH SH, .pointer (some ⟨pm, 0, none⟩)] w (AllPost Z W H pm gm w) := by
  have HB := Lib.hid hb
  have HR := Lib.hid hr
  have HA := Lib.hid hA
  have HDL := Lib.hid hdl
  have HNN := Lib.hid hN
  have HPT := Lib.hid hp
  have HGG := Lib.hid hG
  have hSW1 : SW ≤ 25 := by omega
  have hSH1 : SH ≤ 25 := by omega
  have hSW0 : 5 ≤ SW := by omega
  have hSH0 : 5 ≤ SH := by omega
  have HSS : Hid (W ≤ 8 * SW ∧ H ≤ 8 * SH ∧ 8 * SW ≤ W + 7 ∧ 8 * SH ≤ H + 7) := Lib.hid (by omega)
  obtain ⟨my, hmy⟩ : ∃ m, m = H - 8 := ⟨_, rfl⟩
  obtain ⟨mx0, hmx⟩ : ∃ m, m = W - 8 := ⟨_, rfl⟩
  have e1 : IntKind.i64.wrap ((H : Int) - 8) = (my : Int) := by rw [IntKind.wrap_i64]; omega
  have e2 : IntKind.i64.wrap ((W : Int) - 8) = (mx0 : Int) := by rw [IntKind.wrap_i64]; omega
  have HMY := Lib.hid (And.intro hmy hmx)
  obtain ⟨sh3, hsh3⟩ : ∃ m, m = SH - 3 := ⟨_, rfl⟩
  obtain ⟨sw3, hsw3⟩ : ∃ m, m = SW - 3 := ⟨_, rfl⟩
  have e5 : IntKind.i64.wrap ((SH : Int) - 3) = (sh3 : Int) := by rw [IntKind.wrap_i64]; omega
  have e6 : IntKind.i64.wrap ((SW : Int) - 3) = (sw3 : Int) := by rw [IntKind.wrap_i64]; omega
  have HS3 := Lib.hid (And.intro hsh3 hsw3)
  have hsh3b : sh3 ≤ 22 := by omega
  have hsw3b : sw3 ≤ 22 := by omega
  have HD0 : Hid (Done (List.replicate ((W + 31) / 32 * H) 0) Z W H 0 0 0) := Lib.hid (fun x y _ _ => by rw [mb_zeros, decide_eq_false (by omega)]; rfl)
  clear hb hr hA hdl hN hp hG hSW hSH hmy hmx hsh3 hsw3
  go_enter Try.func82, Try.ntmps82
  go_wp2_with fail
  clear e1 e2
  go_loopw [18] (fun i wr => ∃ (k : Nat) (ws' : List Nat), k ≤ SH ∧ i = .int .i64 k ∧ Hid (BM wr pm gm ws' W H) ∧ Hid (Done ws' Z W H 0 k 0) ∧ Hid (Mod (· = gm) w wr)) (fun i _ => SH - (intOf i).toNat)
  case atStart => exact ⟨0, _, by omega, rfl, HB, HD0, Lib.hid (Mod.refl _)⟩
  case round =>
    obtain ⟨wo, hwo⟩ : ∃ wo, wo = wr := ⟨_, rfl⟩
    rw [← hwo] at hrel ⊢
    clear hwo HD0
    obtain ⟨k, ws1, hk, rfl, HBk, HDk, HM⟩ := hrel
    by_cases hlt : k < SH
    · have hk1 : (k : Int) < (SH : Int) := by omega
      obtain ⟨k8, hk8⟩ : ∃ k8, k8 = 8 * k := ⟨_, rfl⟩
      have e3 : (k : Int) * 2 ^ 3 = (k8 : Int) := by omega
      have e3' : (k : Int) * 8 = (k8 : Int) := by omega
      have e4 : IntKind.i64.wrap (k8 : Int) = (k8 : Int) := by rw [IntKind.wrap_i64]; omega
      have hk8b : k8 ≤ 200 := by omega
      have HK8 := Lib.hid hk8
      clear hk8
      go_upto_if 41 with (fail)
      clear e3 e3' e4
      go_cut [19] (fun a wx => ∃ yo : Nat, wo = wx ∧ a = .int .i64 yo ∧ Hid (yo = min k8 my))
      case first =>
        by_cases h1 : my < k8
        · have q1 : decide ((my : Int) < (k8 : Int)) = true := by simp; omega
          have q2 : decide (my < k8) = true := by simp; omega
          go_wp2_with fail
          go_meet
          case rel => exact ⟨my, rfl, rfl, Lib.hid (by omega)⟩
        · have q1 : decide ((my : Int) < (k8 : Int)) = false := by simp; omega
          have q2 : decide (my < k8) = false := by simp; omega
          go_wp2_with fail
          go_meet
          case rel => exact ⟨k8, rfl, rfl, Lib.hid (by omega)⟩
      case rest =>
        obtain ⟨yo, rfl, rfl, HYO⟩ := hcut
        have HCT := Lib.hid (hbCap v k sh3 (by have := HS3.out; omega) wo)
        go_wp2_with fail
        refine HCT.out.mono ?_
        rintro e wt ⟨top, rfl, ht1, ht2, rfl⟩
        have HDS : Hid (Done ws1 Z W H yo k 0) := Lib.hid (fun x y hx hy => by rw [HDk.out x y hx hy]; congr 1; rw [Bool.eq_iff_iff]; simp only [decide_eq_true_eq]; omega)
        clear HCT HDk
        go_wp2_with fail
        go_loopw [21] (fun i wr => ∃ (j : Nat) (ws' : List Nat), j ≤ SW ∧ i = .int .i64 j ∧ Hid (BM wr pm gm ws' W H) ∧ Hid (Done ws' Z W H yo k j) ∧ Hid (Mod (· = gm) w wr)) (fun i _ => SW - (intOf i).toNat)
        case atStart => exact ⟨0, ws1, by omega, rfl, HBk, HDS, HM⟩
        case round =>
          obtain ⟨wu, hwu⟩ : ∃ wu, wu = wr := ⟨_, rfl⟩
          rw [← hwu] at hrel ⊢
          clear hwu HBk HDS HM
          obtain ⟨j, ws2, hj, rfl, HBj, HDj, HMj⟩ := hrel
          by_cases hjl : j < SW
          · have hj1 : (j : Int) < (SW : Int) := by omega
            obtain ⟨j8, hj8⟩ : ∃ j8, j8 = 8 * j := ⟨_, rfl⟩
            have e3 : (j : Int) * 2 ^ 3 = (j8 : Int) := by omega
            have e3' : (j : Int) * 8 = (j8 : Int) := by omega
            have e4 : IntKind.i64.wrap (j8 : Int) = (j8 : Int) := by rw [IntKind.wrap_i64]; omega
            have hj8b : j8 ≤ 200 := by omega
            have HJ8 := Lib.hid hj8
            clear hj8
            go_upto_if 57 with (fail)
            clear e3 e3' e4
            go_cut [22] (fun a wx => ∃ xo : Nat, wu = wx ∧ a = .int .i64 xo ∧ Hid (xo = min j8 mx0))
            case first =>
              by_cases h1 : mx0 < j8
              · have q1 : decide ((mx0 : Int) < (j8 : Int)) = true := by simp; omega
                have q2 : decide (mx0 < j8) = true := by simp; omega
                go_wp2_with fail
                go_meet
                case rel => exact ⟨mx0, rfl, rfl, Lib.hid (by omega)⟩
              · have q1 : decide ((mx0 : Int) < (j8 : Int)) = false := by simp; omega
                have q2 : decide (mx0 < j8) = false := by simp; omega
                go_wp2_with fail
                go_meet
                case rel => exact ⟨j8, rfl, rfl, Lib.hid (by omega)⟩
            case rest =>
              obtain ⟨xo, rfl, rfl, HXO⟩ := hcut
              have HCT := Lib.hid (hbCap v j sw3 (by have := HS3.out; omega) wu)
              go_wp2_with fail
              refine HCT.out.mono ?_
              rintro e wt ⟨left, rfl, hl1, hl2, rfl⟩
              clear HCT
              go_wp2_with fail
              go_loopw [24, 25] (fun a i wr => ∃ s t : Nat, a = .int .i64 s ∧ i = .int .i64 ((t : Int) - 2) ∧ t ≤ 5 ∧ Hid (t * 5 * d ≤ s ∧ s ≤ t * 5 * (l - 1)) ∧ Hid (BM wr pm gm ws2 W H) ∧ Hid (Mod (· = gm) w wr)) (fun _ i _ => (3 - intOf i).toNat)
              case atStart => exact ⟨0, 0, rfl, rfl, by omega, Lib.hid (by simp), HBj, HMj⟩
              case round =>
                obtain ⟨wz, hwz⟩ : ∃ wz, wz = wr := ⟨_, rfl⟩
                rw [← hwz] at hrel ⊢
                clear hwz HBj HMj
                obtain ⟨s, t, rfl, rfl, ht5, HST, HBz, HMz⟩ := hrel
                obtain ⟨z, hz⟩ : ∃ z : Int, z = (t : Int) - 2 := ⟨_, rfl⟩
                rw [← hz]
                by_cases ht : t < 5
                · have q1 : decide (z ≤ 2) = true := by simp; omega
                  obtain ⟨iy, hiy⟩ : ∃ iy, iy = top + t - 2 := ⟨_, rfl⟩
                  have w1 : IntKind.i64.wrap ((top : Int) + z) = (iy : Int) := by rw [IntKind.wrap_i64]; omega
                  have hiy1 : iy < SH := by have := HS3.out; omega
                  have i0 : (0 : Int) ≤ (iy : Int) := by omega
                  have i1 : (iy : Int) < (SH : Int) := by omega
                  have hgr := HPT.out.1.mod HMz.out (fun j h1 h2 => HGG.out j h1 h2)
                  have chd := hgr.head iy hiy1 hiy1
                  obtain ⟨a0, ha0⟩ : ∃ a, a = left - 2 := ⟨_, rfl⟩
                  obtain ⟨a1, ha1⟩ : ∃ a, a = left - 1 := ⟨_, rfl⟩
                  obtain ⟨a3, ha3⟩ : ∃ a, a = left + 1 := ⟨_, rfl⟩
                  obtain ⟨a4, ha4⟩ : ∃ a, a = left + 2 := ⟨_, rfl⟩
                  have wa0 : IntKind.i64.wrap ((left : Int) - 2) = (a0 : Int) := by rw [IntKind.wrap_i64]; omega
                  have wa1 : IntKind.i64.wrap ((left : Int) - 1) = (a1 : Int) := by rw [IntKind.wrap_i64]; omega
                  have wa3 : IntKind.i64.wrap ((left : Int) + 1) = (a3 : Int) := by rw [IntKind.wrap_i64]; omega
                  have wa4 : IntKind.i64.wrap ((left : Int) + 2) = (a4 : Int) := by rw [IntKind.wrap_i64]; omega
                  have hl4 : a4 < SW := by have := HS3.out; omega
                  have c0 := hgr.cell iy a0 hiy1 (by omega)
                  have c1 := hgr.cell iy a1 hiy1 (by omega)
                  have c2 := hgr.cell iy left hiy1 (by omega)
                  have c3 := hgr.cell iy a3 hiy1 (by omega)
                  have c4 := hgr.cell iy a4 hiy1 hl4
                  have b0 := HPT.out.2 iy a0 hiy1 (by omega)
                  have b1 := HPT.out.2 iy a1 hiy1 (by omega)
                  have b2 := HPT.out.2 iy left hiy1 (by omega)
                  have b3 := HPT.out.2 iy a3 hiy1 (by omega)
                  have b4 := HPT.out.2 iy a4 hiy1 hl4
                  obtain ⟨v0, hv0⟩ : ∃ v, v = bp iy a0 := ⟨_, rfl⟩
                  obtain ⟨v1, hv1⟩ : ∃ v, v = bp iy a1 := ⟨_, rfl⟩
                  obtain ⟨v2, hv2⟩ : ∃ v, v = bp iy left := ⟨_, rfl⟩
                  obtain ⟨v3, hv3⟩ : ∃ v, v = bp iy a3 := ⟨_, rfl⟩
                  obtain ⟨v4, hv4⟩ : ∃ v, v = bp iy a4 := ⟨_, rfl⟩
                  rw [← hv0] at c0 b0
                  rw [← hv1] at c1 b1
                  rw [← hv2] at c2 b2
                  rw [← hv3] at c3 b3
                  rw [← hv4] at c4 b4
                  have hl256 := HDL.out.2
                  have hsb : s ≤ 5 * 5 * 255 := by
                    have h1 : t * 5 * (l - 1) ≤ 5 * 5 * 255 := Nat.mul_le_mul (by omega) (by omega)
                    have := HST.out.2; omega
                  obtain ⟨s1, hs1⟩ : ∃ s, s = v0 + v1 := ⟨_, rfl⟩
                  obtain ⟨s2, hs2⟩ : ∃ s, s = s1 + v2 := ⟨_, rfl⟩
                  obtain ⟨s3, hs3⟩ : ∃ s, s = s2 + v3 := ⟨_, rfl⟩
                  obtain ⟨s4, hs4⟩ : ∃ s, s = s3 + v4 := ⟨_, rfl⟩
                  obtain ⟨s5, hs5⟩ : ∃ x, x = s + s4 := ⟨_, rfl⟩
                  have ws1 : IntKind.i64.wrap ((v0 : Int) + (v1 : Int)) = (s1 : Int) := by rw [IntKind.wrap_i64]; omega
                  have ws2' : IntKind.i64.wrap ((s1 : Int) + (v2 : Int)) = (s2 : Int) := by rw [IntKind.wrap_i64]; omega
                  have ws3 : IntKind.i64.wrap ((s2 : Int) + (v3 : Int)) = (s3 : Int) := by rw [IntKind.wrap_i64]; omega
                  have ws4 : IntKind.i64.wrap ((s3 : Int) + (v4 : Int)) = (s4 : Int) := by rw [IntKind.wrap_i64]; omega
                  have ws5 : IntKind.i64.wrap ((s : Int) + (s4 : Int)) = (s5 : Int) := by rw [IntKind.wrap_i64]; omega
                  have HST2 : Hid ((t + 1) * 5 * d ≤ s5 ∧ s5 ≤ (t + 1) * 5 * (l - 1)) := Lib.hid (by
                    have q := HST.out
                    rw [Nat.add_mul, Nat.add_mul, Nat.add_mul, Nat.one_mul]
                    omega)
                  have wz1 : IntKind.i64.wrap (z + 1) = z + 1 := by rw [IntKind.wrap_i64]; omega
                  have j0 : (0 : Int) ≤ (a0 : Int) := by omega
                  have j0' : (a0 : Int) < (SW : Int) := by omega
                  have j1 : (0 : Int) ≤ (a1 : Int) := by omega
                  have j1' : (a1 : Int) < (SW : Int) := by omega
                  have j2 : (0 : Int) ≤ (left : Int) := by omega
                  have j2' : (left : Int) < (SW : Int) := by omega
                  have j3 : (0 : Int) ≤ (a3 : Int) := by omega
                  have j3' : (a3 : Int) < (SW : Int) := by omega
                  have j4 : (0 : Int) ≤ (a4 : Int) := by omega
                  have j4' : (a4 : Int) < (SW : Int) := by omega
                  have HZ := Lib.hid hz
                  have HBn : Hid (∀ n, Hid (BM (wz.drewN n) pm gm ws2 W H) ∧ Hid (Mod (· = gm) w (wz.drewN n))) := Lib.hid (fun n => ⟨Lib.hid (HBz.out.keep rfl rfl), Lib.hid (HMz.out.drewN n)⟩)
                  have hz2 : -2 ≤ z ∧ z ≤ 2 := by omega
                  obtain ⟨hz3, hz4⟩ := hz2
                  clear hiy hgr ha0 ha1 ha3 ha4 hv0 hv1 hv2 hv3 hv4 hs1 hs2 hs3 hs4 hs5 hz HST HBz HMz b0 b1 b2 b3 b4
                  go_wp2_with fail
                  go_quiet (fail)
                  go_wp2_with fail
                  go_roundw
                  case rel => exact ⟨s5, t + 1, rfl, by have := HZ.out; first | (congr 1; omega) | go_num, by omega, HST2, (HBn.out _).1, (HBn.out _).2⟩
                  case measure => have := HZ.out; simp [intOf]; omega
                · obtain rfl : t = 5 := by omega
                  have q1 : decide (z ≤ 2) = false := by simp; omega
                  obtain ⟨av, hav⟩ : ∃ av, av = s / 25 := ⟨_, rfl⟩
                  have hst := HST.out
                  have hd1 := HDL.out.1
                  have hd2 := HDL.out.2
                  have ha1 : d ≤ av := by rw [hav]; omega
                  have ha2 : av < l := by rw [hav]; omega
                  have e1 : (s : Int).tdiv 25 = (av : Int) := by rw [Int.tdiv_eq_ediv_of_nonneg (by omega)]; omega
                  have e2 : IntKind.i64.wrap (av : Int) = (av : Int) := by rw [IntKind.wrap_i64]; omega
                  have hxo : xo + 8 ≤ W := by have := HXO.out; have := HMY.out; omega
                  have hyo : yo + 8 ≤ H := by have := HYO.out; have := HMY.out; omega
                  have HTB := Lib.hid (thrBlock v Z W H N d l av xo yo c pm gm ws2 hW hH HDL.out HNN.out hxo hyo ha1 ha2 A wz HBz.out (Mod.rd HR.out HMz.out (fun a ha _ => HA.out a ha)) HA.out)
                  clear hz hav hst hd1 hd2
                  go_wp2_with fail
                  refine HTB.out.mono ?_
                  rintro e w9 ⟨rfl, ws9, HB9, HL9, HM9⟩
                  have HMA : Hid (Mod (· = gm) w w9) := Lib.hid (HMz.out.trans HM9.out)
                  have HD9 : Hid (Done ws9 Z W H yo k (j + 1)) := Lib.hid (fun x y hx hy => by
                    rw [HL9.out x y hx hy, HDj.out x y hx hy, ← Bool.and_or_distrib_right]
                    congr 1
                    have q2 := HXO.out
                    have q3 := HJ8.out
                    have q4 := HMY.out
                    rw [Bool.eq_iff_iff, Bool.or_eq_true]; simp only [decide_eq_true_eq]; unfold cov; omega)
                  clear HTB HL9 HM9 HDj
                  go_wp2_with fail
                  go_roundw
                  case rel => exact ⟨j + 1, ws9, by omega, by go_num, HB9, HD9, HMA⟩
                  case measure => simp [intOf]; omega
          · obtain rfl : j = SW := by omega
            have HD2 : Hid (Done ws2 Z W H 0 (k + 1) 0) := Lib.hid (fun x y hx hy => by
              rw [HDj.out x y hx hy]; congr 1
              have q1 := HSS.out
              have q2 := HYO.out
              have q3 := HK8.out
              have q4 := HMY.out
              rw [Bool.eq_iff_iff]; simp only [decide_eq_true_eq]; omega)
            clear HDj
            go_wp2_with fail
            go_roundw
            case rel => exact ⟨k + 1, ws2, by omega, by go_num, HBj, HD2, HMj⟩
            case measure => simp [intOf]; omega
    · obtain rfl : k = SH := by omega
      have HQ : Hid (∀ x y, x < W → y < H → mb ws1 W x y = Z y x) := Lib.hid (fun x y hx hy => by
        have q1 := HSS.out
        rw [HDk.out x y hx hy, decide_eq_true (by omega), Bool.true_and])
      go_wp2_with fail
      go_end0
      exact ⟨rfl, ws1, HBk, HQ, HM⟩
end Go.Proofs.Ythgnmcofclndlaa
