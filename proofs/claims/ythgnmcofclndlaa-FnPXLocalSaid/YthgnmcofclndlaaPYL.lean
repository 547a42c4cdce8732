/-
  The binarizer by bounds of parts: NewHybridBinarizer, GetBlackMatrix, and the statement FnPXLocal, walked. No condition beyond the bounds that each theorem states.
-/
import Derived.Test.YthgnmcofclndlaaPYK
namespace Go.Proofs.Ythgnmcofclndlaa
open Go.RowKit Go.Qz
set_option linter.unusedVariables false

def HB (w : World) (h g : Nat) : Prop := Arr w 84 h [.pointer (some ⟨g, 0, none⟩), .pointer none]
def NewHPost (p : Nat) (w : World) (e : Ending) (w' : World) : Prop := ∃ h g bk e0, e = .returned (.iface 82 (.pointer (some ⟨h, 0, none⟩))) ∧ Hid (HB w' h g) ∧ Hid (GH w' g p bk (.slice (some ⟨e0, 0, none⟩) 0 0) (fun _ => 0)) ∧ Hid (w.heap.size ≤ h ∧ w.heap.size ≤ g ∧ w.heap.size ≤ bk) ∧ Below w.heap.size w w'
theorem gh_assert (g : Nat) (X : World) : (Instr.typeAssert (.iface 78 (.pointer (some ⟨g, 0, none⟩))) 65 78 false).run Try.prog X = .ok (.pointer (some ⟨g, 0, none⟩)) X := by kernel_rfl
set_option maxRecDepth 100000 in
set_option maxHeartbeats 1600000 in
theorem hbNew (w : World) (p : Nat) : Calls Try.prog 30 #[.iface 72 (.pointer (some ⟨p, 0, none⟩))] w (NewHPost p w) := by
  have HN := Lib.hid (ghNew w p)
  have hta := fun g X => gh_assert g X
  go_enter Try.func30, Try.ntmps30
  go_wp2_with fail
  refine HN.out.mono ?_
  rintro e w1 ⟨g, bk, e0, rfl, hg, h1, h2, hb⟩
  have hb2 : Below w1.heap.size w1 (w1.alloc (.cells #[.pointer (some ⟨g, 0, none⟩), .pointer none] 84)) := (Below.refl _ _).alloc (Nat.le_refl _) _
  have HP : Hid (NewHPost p w (.returned (.iface 82 (.pointer (some ⟨w1.heap.size, 0, none⟩)))) (w1.alloc (.cells #[.pointer (some ⟨g, 0, none⟩), .pointer none] 84))) := Lib.hid ⟨_, g, bk, e0, rfl, Lib.hid (Arr.new w1 _ _), Lib.hid (hg.out.below hb2), Lib.hid ⟨hb.size, h1, h2⟩, hb.trans (hb2.mono hb.size)⟩
  clear hg h1 h2 hb hb2 HN
  go_wp2_with fail
  go_ret
  exact HP.out

theorem i64_and7 (n : Nat) (h : n ≤ 200) : bits .and .i64 (n : Int) 7 = ((n % 8 : Nat) : Int) := by
  rw [show (7 : Int) = ((7 : Nat) : Int) from rfl, i64_and n 7 (by omega) (by omega), show (7 : Nat) = 2 ^ 3 - 1 from rfl, Nat.and_two_pow_sub_one_eq_mod]
def BlackHPost (Z : Nat → Nat → Bool) (W H h : Nat) (w : World) (e : Ending) (w' : World) : Prop := ∃ p g ws, e = .returned (.tuple #[.pointer (some ⟨p, 0, none⟩), .nilIface]) ∧ Hid (BM w' p g ws W H) ∧ Hid (∀ x y, x < W → y < H → mb ws W x y = Z y x) ∧ Hid (Mod (· = h) w w')
set_option maxRecDepth 100000 in
set_option maxHeartbeats 16000000 in
theorem hbBlack (Z : Nat → Nat → Bool) (W H N d l c h g p bk e0 : Nat) (hW1 : 40 ≤ W) (hW : W ≤ 200) (hH1 : 40 ≤ H) (hH : H ≤ 200) (hdl : TwoOk d l) (h24 : d + 24 < l) (hsq : Squares Z H W) (hN : N = W * H) (hNc : N ≤ c) (hcm : c ≤ maxLen) (A : Option Addr) (w : World)
    (hh : HB w h g) (hG : GH w g p bk (.slice (some ⟨e0, 0, none⟩) 0 0) (fun _ => 0)) (hs : SrcIs w p A N c W H 0 0 W H) (hr : Rd w A N (fun j => .int .u8 ((gr Z W d l j : Nat) : Int))) :
    Calls Try.prog 80 #[.pointer (some ⟨h, 0, none⟩)] w (BlackHPost Z W H h w) := by
  have a0 := hs.cell? 0
  have a1 := hs.cell? 1
  simp only [List.getElem?_cons_zero, List.getElem?_cons_succ] at a0 a1
  have k0 : w.cell? ⟨h, 0, none⟩ = some (.pointer (some ⟨g, 0, none⟩)) := hh.cell? 0
  have k1 : w.cell? ⟨h, 1, none⟩ = some (.pointer none) := hh.cell? 1
  have HSO := Lib.hid (ghSource g p bk _ _ w hG)
  have HWW := Lib.hid (getWidth p 0 W w a0)
  have HHH := Lib.hid (getHeight p 0 H w a1)
  have HMW := Lib.hid (matrix_whole p A N c W H 0 0 w hs)
  have h1 := fun X => m_width p X
  have h2 := fun X => m_height p X
  have h3 := fun X => m_matrix p X
  have HNB := Lib.hid (fun X => bm_new W H (by omega) (by omega) (by omega) (by omega) X)
  obtain ⟨SW, hSW⟩ : ∃ v, v = (W + 7) / 8 := ⟨_, rfl⟩
  obtain ⟨SH, hSH⟩ : ∃ v, v = (H + 7) / 8 := ⟨_, rfl⟩
  have HPT := Lib.hid (blackPoints (.pointer (some ⟨h, 0, none⟩)) Z W H N d l c SW SH (by omega) (by omega) hW hH hdl h24 hsq hN hSW hSH A w hr)
  have HTH := Lib.hid (fun G pm gm bp w9 hb9 hr9 hA9 hp9 hG9 => thrAll (.pointer (some ⟨h, 0, none⟩)) Z W H N d l c SW SH G pm gm bp hW1 hH1 hW hH hdl hN hSW hSH A w9 hb9 hr9 hA9 hp9 hG9)
  have HHB := Lib.hid hh
  have HR := Lib.hid hr
  have HN0 : Hid (0 < N) := Lib.hid (by rw [hN]; exact Nat.mul_pos (by omega) (by omega))
  have hnn : ∀ X, (binOp .neq 58 (.pointer none) (.pointer none)).run Try.prog X = .ok (.bool false) X := fun X => by rfl
  have r1 : decide ((40 : Int) ≤ (W : Int)) = true := by simp; omega
  have r2 : decide ((40 : Int) ≤ (H : Int)) = true := by simp; omega
  have r3 : decide (40 ≤ W) = true := by simp; omega
  have r4 : decide (40 ≤ H) = true := by simp; omega
  obtain ⟨qw, hqw⟩ : ∃ v, v = W / 8 := ⟨_, rfl⟩
  obtain ⟨qh, hqh⟩ : ∃ v, v = H / 8 := ⟨_, rfl⟩
  obtain ⟨mw, hmw⟩ : ∃ v, v = W % 8 := ⟨_, rfl⟩
  obtain ⟨mh, hmh⟩ : ∃ v, v = H % 8 := ⟨_, rfl⟩
  have s1 : (W : Int) / 8 = (qw : Int) := by omega
  have s1' : (W : Int) / 2 ^ 3 = (qw : Int) := by omega
  have s2 : (H : Int) / 8 = (qh : Int) := by omega
  have s2' : (H : Int) / 2 ^ 3 = (qh : Int) := by omega
  have s3 : bits .and .i64 (W : Int) 7 = (mw : Int) := by rw [hmw]; exact i64_and7 W hW
  have s4 : bits .and .i64 (H : Int) 7 = (mh : Int) := by rw [hmh]; exact i64_and7 H hH
  have HMM : Hid ((mw = 0 → SW = qw) ∧ (mw ≠ 0 → SW = qw + 1) ∧ (mh = 0 → SH = qh) ∧ (mh ≠ 0 → SH = qh + 1) ∧ qw ≤ 200 ∧ qh ≤ 200) := Lib.hid (by omega)
  clear hh hG hs hr a0 a1 hqw hqh hmw hmh hsq hSW hSH hN
  go_enter Try.func80, Try.ntmps80
  go_wp2_with fail
  refine HSO.out.mono ?_
  rintro e w1 ⟨rfl, rfl⟩
  go_wp2_with fail
  refine HWW.out.mono ?_
  rintro e w1 ⟨rfl, rfl⟩
  go_wp2_with fail
  refine HHH.out.mono ?_
  rintro e w1 ⟨rfl, rfl⟩
  go_wp2_with fail
  refine HMW.out.mono ?_
  rintro e w1 ⟨rfl, rfl⟩
  clear h1 h2 h3 HSO HWW HHH HMW r1 r2 r3 r4 k0 k1
  go_upto_if 45 with (fail)
  go_cut [8] (fun a wx => w = wx ∧ a = .int .i64 SW)
  case first =>
    by_cases hz : mw = 0
    · obtain rfl := hz
      have q1 : (((0 : Nat) : Int) != 0) = false := by rfl
      have HE := Lib.hid (HMM.out.1 rfl)
      go_wp2_with fail
      go_meet
      case rel => exact ⟨rfl, by first | rfl | (congr 1; have := HE.out; omega)⟩
    · have q1 : ((mw : Int) != 0) = true := by simp; omega
      have he := HMM.out.2.1 hz
      have q2 : IntKind.i64.wrap ((qw : Int) + 1) = ((qw + 1 : Nat) : Int) := by have := HMM.out; rw [IntKind.wrap_i64]; omega
      rw [← he] at q2
      have HE := Lib.hid he
      clear he
      go_wp2_with fail
      go_meet
      case rel => exact ⟨rfl, by first | rfl | (congr 1; have := HE.out; omega)⟩
  case rest =>
    obtain ⟨rfl, rfl⟩ := hcut
    go_upto_if 52 with (fail)
    go_cut [9] (fun a wx => w = wx ∧ a = .int .i64 SH)
    case first =>
      by_cases hz : mh = 0
      · obtain rfl := hz
        have q1 : (((0 : Nat) : Int) != 0) = false := by rfl
        have HE := Lib.hid (HMM.out.2.2.1 rfl)
        go_wp2_with fail
        go_meet
        case rel => exact ⟨rfl, by first | rfl | (congr 1; have := HE.out; omega)⟩
      · have q1 : ((mh : Int) != 0) = true := by simp; omega
        have he := HMM.out.2.2.2.1 hz
        have q2 : IntKind.i64.wrap ((qh : Int) + 1) = ((qh + 1 : Nat) : Int) := by have := HMM.out; rw [IntKind.wrap_i64]; omega
        rw [← he] at q2
        have HE := Lib.hid he
        clear he
        go_wp2_with fail
        go_meet
        case rel => exact ⟨rfl, by first | rfl | (congr 1; have := HE.out; omega)⟩
    case rest =>
      obtain ⟨rfl, rfl⟩ := hcut
      clear s1 s1' s2 s2' s3 s4
      go_wp2_with fail
      refine HPT.out.mono ?_
      rintro e w2 ⟨G, bp, rfl, HGR, HBP, hb2⟩
      have HB2 := Lib.hid hb2
      clear hb2 HPT
      go_wp2_with fail
      refine (HNB.out w2).mono ?_
      rintro e w3 ⟨pm, gm, rfl, hbm, hb3, hpm, hgm⟩
      have HB3 := Lib.hid (HB2.out.trans (hb3.mono HB2.out.size))
      have HG3 := Lib.hid (HGR.out.below hb3)
      have HT := Lib.hid (HTH.out G pm gm bp w3 hbm (HR.out.below HB3.out) (fun a ha => by
        obtain ⟨ab, ao, e, hlt, _⟩ := HR.out HN0.out
        rw [ha] at e; injection e with e; subst e
        have := HB2.out.size
        dsimp only; omega) ⟨HG3.out, HBP.out⟩ (fun j h1 h2 => by
        have : j < w2.heap.size := by
          by_cases e : j = G
          · rw [e]; exact HGR.out.hd.lt
          · have := (HGR.out.row (j - G - 1) (by omega)).lt
            omega
        omega))
      have HH3 := Lib.hid (Arr.below HHB.out HB3.out HHB.out.lt)
      have HPM : Hid (w.heap.size ≤ pm ∧ w.heap.size ≤ gm) := Lib.hid (by have := HB2.out.size; omega)
      clear hbm hb3 hpm hgm HNB HTH HGR HG3
      go_wp2_with fail
      refine HT.out.mono ?_
      rintro e w4 ⟨rfl, ws, hbm4, hmb4, hm4⟩
      have HH4 : Hid (Arr w4 84 h [.pointer (some ⟨g, 0, none⟩), .pointer none]) := Lib.hid (HH3.out.mod hm4.out (by have := HHB.out.lt; have := HPM.out; omega))
      have k1 : w4.cell? ⟨h, 1, none⟩ = some (.pointer none) := HH4.out.cell? 1
      have kf := HH4.out.free 1
      have hms := Mod.set1 w4 h 1 (.pointer (some ⟨pm, 0, none⟩))
      have HH5 : Hid (Arr (w4.setCell ⟨h, 1, none⟩ (.pointer (some ⟨pm, 0, none⟩))) 84 h [.pointer (some ⟨g, 0, none⟩), .pointer (some ⟨pm, 0, none⟩)]) := Lib.hid (HH4.out.set_ 1 _)
      have k2 : (w4.setCell ⟨h, 1, none⟩ (.pointer (some ⟨pm, 0, none⟩))).cell? ⟨h, 1, none⟩ = some (.pointer (some ⟨pm, 0, none⟩)) := HH5.out.cell? 1
      have HP5 : Hid (BlackHPost Z W H h w (.returned (.tuple #[.pointer (some ⟨pm, 0, none⟩), .nilIface])) (w4.setCell ⟨h, 1, none⟩ (.pointer (some ⟨pm, 0, none⟩)))) := Lib.hid ⟨pm, gm, ws, rfl, Lib.hid (hbm4.out.mod hms (by have := HHB.out.lt; have := HPM.out; omega) (by have := HHB.out.lt; have := HPM.out; omega)), hmb4, Lib.hid (((Mod.of_below HB3.out).then hm4.out (fun i hi hh => by have := HPM.out; omega)).trans hms)⟩
      clear HT HH3 HH4 HH5 hbm4 hmb4 hm4 hms
      go_wp2_with fail
      go_ret2
      exact HP5.out
end Go.Proofs.Ythgnmcofclndlaa
