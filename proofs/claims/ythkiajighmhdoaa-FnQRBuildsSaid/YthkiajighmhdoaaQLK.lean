/-
  The statement FnQRBuilds, walked. No condition.
-/
import Derived.Test.YthkiajighmhdoaaQLJ
import Derived.Test.YthkiajighmhdoaaQLH
import Derived.BigQuiet
namespace Go.Proofs.Ythkiajighmhdoaa
open Go.RowKit Go.Qz Go.Qz.QK Go.Qz.QW
open Go.Qz.QB (fb vb rrest vb_lt fb_lt)
set_option linter.unusedVariables false

set_option maxRecDepth 100000 in
theorem qrVersionB (a : Nat) (ha : a < 256) (w : World) : Calls Try.prog 7 #[.int .u8 a] w fun e w' => e = .returned (.int .i64 ((1 + a % 40 : Nat) : Int)) ∧ w = w' := by
  obtain ⟨r, hr⟩ : ∃ r, r = a % 40 := ⟨_, rfl⟩
  obtain ⟨s, hs⟩ : ∃ s, s = 1 + r := ⟨_, rfl⟩
  rw [← hr, ← hs]
  have t1 : (a : Int).tmod 40 = (r : Int) := by rw [Int.tmod_eq_emod_of_nonneg (by omega)]; omega
  have t2 : (a : Int) % 40 = (r : Int) := by omega
  have t3 : (1 : Int) + (r : Int) = (s : Int) := by omega
  have hrb : r < 40 := by omega
  clear hr hs
  go_enter Try.func7, Try.ntmps7
  go_wp2_with fail
  go_ret
  exact ⟨rfl, rfl⟩
set_option maxRecDepth 100000 in
theorem qrLevelB (a : Nat) (ha : a < 256) (w : World) : Calls Try.prog 12 #[.int .u8 a] w fun e w' => e = .returned (.int .i64 ((a % 4 : Nat) : Int)) ∧ w = w' := by
  obtain ⟨r, hr⟩ : ∃ r, r = a % 4 := ⟨_, rfl⟩
  rw [← hr]
  have t1 : (a : Int).tmod 4 = (r : Int) := by rw [Int.tmod_eq_emod_of_nonneg (by omega)]; omega
  have t2 : (a : Int) % 4 = (r : Int) := by omega
  have hrb : r < 4 := by omega
  clear hr
  go_enter Try.func12, Try.ntmps12
  go_wp2_with fail
  go_ret
  exact ⟨rfl, rfl⟩
set_option maxRecDepth 100000 in
theorem qrMaskB (a : Nat) (ha : a < 256) (w : World) : Calls Try.prog 14 #[.int .u8 a] w fun e w' => e = .returned (.int .i64 ((a % 8 : Nat) : Int)) ∧ w = w' := by
  obtain ⟨r, hr⟩ : ∃ r, r = a % 8 := ⟨_, rfl⟩
  rw [← hr]
  have t1 : (a : Int).tmod 8 = (r : Int) := by rw [Int.tmod_eq_emod_of_nonneg (by omega)]; omega
  have t2 : (a : Int) % 8 = (r : Int) := by omega
  have hrb : r < 8 := by omega
  clear hr
  go_enter Try.func14, Try.ntmps14
  go_wp2_with fail
  go_ret
  exact ⟨rfl, rfl⟩
/-- The code's symbol and the reference's are the same. -/
theorem built_same (v d m L : Nat) (z : Nat → Bool) (h1 : 1 ≤ v) (h2 : v ≤ 40) (r c : Nat) (hr : r < dimOf v) (hc : c < dimOf v) :
    fl (dimOf v) (gvB v) (base v (fb d) (vb v)) (vM m L z) ((dimOf v - 1) * dimOf v) r c =
      if sl (dimOf v) (gvB v) (patB v d) (vbM m L z) (wy (dimOf v) (gvB v) ((dimOf v - 1) * dimOf v)).length r c then 1 else 0 := by
  have ho : dimOf v % 2 = 1 := by unfold dimOf; omega
  have hn : 21 ≤ dimOf v := by unfold dimOf; omega
  refine both ho hn (fun r _ => gvB_six v r) (fun r c hr hc hg => ?_) (fun r c k => ?_) hr hc
  · rw [base_eq v (fb d) (vb v) r c h1 h2 hr hc]
    have hg2 := hg
    unfold gvB at hg2
    rw [decide_eq_true_eq] at hg2
    rw [if_pos hg2]
    unfold patB
    rw [hg, Bool.true_and]
  · unfold vM b8; rfl
theorem bd_u8B {x : Int} (h : (Lit.int .u8 x).wf = true) : 0 ≤ x ∧ x ≤ 255 := by simpa [Lit.wf, IntKind.min, IntKind.max, IntKind.signed, IntKind.bits] using h
set_option maxRecDepth 100000 in
set_option maxHeartbeats 6400000 in
theorem fnQRBuilds (w : World) (A : Option Addr) (L cap : Nat) (z : Nat → Bool) (hLc : L ≤ cap) (hcm : cap ≤ maxLen) (hR : Rd w A L (fun j => .bool (z j)))
    (ver : Int) (hver : (Lit.int .u8 ver).wf = true) (lev : Int) (hlev : (Lit.int .u8 lev).wf = true) (ma : Int) (hma : (Lit.int .u8 ma).wf = true) :
    Calls Try.prog 4 #[.slice A L cap, .int .u8 ver, .int .u8 lev, .int .u8 ma] w fun e w' => e = .returned (.bool true) ∧ Below w.heap.size w w' := by
  have b1 := bd_u8B hver
  have b2 := bd_u8B hlev
  have b3 := bd_u8B hma
  obtain ⟨a1, rfl⟩ : ∃ x : Nat, ver = x := ⟨ver.toNat, by omega⟩
  obtain ⟨a2, rfl⟩ : ∃ x : Nat, lev = x := ⟨lev.toNat, by omega⟩
  obtain ⟨a3, rfl⟩ : ∃ x : Nat, ma = x := ⟨ma.toNat, by omega⟩
  have HR := Lib.hid hR
  have hLm : L ≤ 9223372036854775807 := by unfold maxLen at hcm; omega
  clear hR hver hlev hma hcm hLc
  by_cases hL : (2147483647 : Int) < (L : Int)
  · clear b1 b2 b3
    go_enter Try.func4, Try.ntmps4
    go_wp2_with fail
    go_ret
    exact ⟨rfl, Below.refl _ _⟩
  have hL1 : ((2147483647 : Int) < (L : Int)) = False := by simpa using hL
  have hL2 : L ≤ 2147483647 := by omega
  have HQ1 := Lib.hid (fun W => qrVersionB a1 (by omega) W)
  have HQ2 := Lib.hid (fun W => qrLevelB a2 (by omega) W)
  have HQ3 := Lib.hid (fun W => qrMaskB a3 (by omega) W)
  have hv40 : a1 % 40 < 40 := Nat.mod_lt _ (by decide)
  have hl4 : a2 % 4 < 4 := Nat.mod_lt _ (by decide)
  have hm8 : a3 % 8 < 8 := Nat.mod_lt _ (by decide)
  obtain ⟨v, hv⟩ : ∃ v, v = 1 + a1 % 40 := ⟨_, rfl⟩
  obtain ⟨l, hl⟩ : ∃ l, l = a2 % 4 := ⟨_, rfl⟩
  obtain ⟨m, hm⟩ : ∃ m, m = a3 % 8 := ⟨_, rfl⟩
  rw [← hv] at HQ1
  rw [← hl] at HQ2 hl4
  rw [← hm] at HQ3 hm8
  have h1 : 1 ≤ v := by omega
  have h2 : v ≤ 40 := by omega
  obtain ⟨d, hd⟩ : ∃ d, d = l * 8 + m := ⟨_, rfl⟩
  have HBD := Lib.hid (qrBuild A L cap v l m d z hL2 hd hl4 hm8 h1 h2 w HR.out)
  have HMD := Lib.hid (fun W => sModules A L cap v l m d z hL2 hd hl4 hm8 h1 h2 W)
  have HRO := Lib.hid (fun W => room v h1 h2 W)
  have HSM := Lib.hid (fun r c hr hc => built_same v d m L z h1 h2 r c hr hc)
  have hrf := (room_fine v h1 h2).2
  have hn200 : dimOf v ≤ 200 := by unfold dimOf; omega
  obtain ⟨S, hS⟩ : ∃ S, S = sl (dimOf v) (gvB v) (patB v d) (vbM m L z) (wy (dimOf v) (gvB v) ((dimOf v - 1) * dimOf v)).length := ⟨_, rfl⟩
  rw [← hS] at HMD HSM
  unfold QBuildPost at HBD
  obtain ⟨n, hn⟩ : ∃ n, n = dimOf v := ⟨_, rfl⟩
  rw [← hn] at HBD HMD HSM hn200
  obtain ⟨F, hF⟩ : ∃ F, F = fl n (gvB v) (base v (fb d) (vb v)) (vM m L z) ((n - 1) * n) := ⟨_, rfl⟩
  rw [← hF] at HBD HSM
  unfold IntPost at HRO
  obtain ⟨rm, hrm⟩ : ∃ rm, rm = roomOf v := ⟨_, rfl⟩
  rw [← hrm] at HBD HRO hrf
  have hv41 : v < 41 := by omega
  clear hS hn hF hrm hd hv hl hm hv40 hL b1 b2 b3 h1 h2
  go_enter Try.func4, Try.ntmps4
  go_wp2_with fail
  refine (HQ1.out _).mono ?_
  rintro e w1 ⟨rfl, rfl⟩
  go_wp2_with fail
  refine (HQ2.out _).mono ?_
  rintro e w1 ⟨rfl, rfl⟩
  go_wp2_with fail
  refine (HQ3.out _).mono ?_
  rintro e w1 ⟨rfl, rfl⟩
  clear HQ1 HQ2 HQ3
  go_wp2_with fail
  refine HBD.out.mono ?_
  rintro e w2 (⟨hfit, A2, c2, rfl, HG2, HB2⟩ | ⟨hfit, rfl, HB2⟩)
  · have hfit2 : ((rm : Int) < (L : Int)) = False := by simp; omega
    clear HBD
    go_wp2_with fail
    refine (HRO.out _).mono ?_
    rintro e w3 ⟨rfl, hb3⟩
    have HB3 : Hid (Below w.heap.size w w3) := Lib.hid (HB2.out.trans (hb3.mono HB2.out.size))
    have HG3 := Lib.hid (HG2.out.below hb3)
    have HRX : Hid (Rd w3 A L (fun j => .bool (z j))) := Lib.hid (HR.out.below HB3.out)
    clear hb3 HG2 HB2 HR HRO
    go_wp2_with fail
    refine (HMD.out _ HRX.out).mono ?_
    rintro e w4 ⟨G, rfl, HW4, hb4, _, _⟩
    have HB4 : Hid (Below w.heap.size w w4) := Lib.hid (HB3.out.trans (hb4.out.mono HB3.out.size))
    obtain ⟨b, rfl, hbl, hgot⟩ := HG3.out.below hb4.out
    have HGT := Lib.hid hgot
    clear HMD HRX HG3 HB3 hb4 hgot
    go_wp2_with fail
    go_loopw [57] (fun i wr => ∃ k : Nat, k ≤ n ∧ i = .int .i64 k ∧ Hid (Below w4.heap.size w4 wr)) (fun i _ => n - (intOf i).toNat)
    case atStart => exact ⟨0, by omega, rfl, Lib.hid (Below.refl _ _)⟩
    case round =>
      obtain ⟨k, hk, rfl, HB5⟩ := hrel
      obtain ⟨wi, hwi⟩ : ∃ wi, wi = wr := ⟨_, rfl⟩
      rw [← hwi] at HB5 ⊢
      clear hwi
      by_cases hlt : k < n
      · have hk1 : (k : Int) < (n : Int) := by omega
        have hk0 : (0 : Int) ≤ (k : Int) := by omega
        obtain ⟨b', C, g1, g2, g3⟩ := HGT.out k hlt
        have c0 := (HB5.out.cell (p := ⟨b, k, none⟩) hbl).trans g1
        have c1 := (HB5.out.cell (p := ⟨G, k, none⟩) HW4.out.hd.lt).trans (HW4.out.head k hlt hlt)
        have HG6 := Lib.hid g3
        have HC0 := Lib.hid g1
        clear g1 g3
        go_wp2_with fail
        go_loopw [73] (fun i wr => ∃ j : Nat, j ≤ n ∧ i = .int .i64 j ∧ Hid (Below w4.heap.size w4 wr)) (fun i _ => n - (intOf i).toNat)
        case atStart => exact ⟨0, by omega, rfl, HB5⟩
        case round =>
          obtain ⟨j, hj, rfl, HB6⟩ := hrel
          obtain ⟨wj, hwj⟩ : ∃ wj, wj = wr := ⟨_, rfl⟩
          rw [← hwj] at HB6 ⊢
          clear hwj c0 c1
          by_cases hjn : j < n
          · have hj1 : (j : Int) < (n : Int) := by omega
            have hj0 : (0 : Int) ≤ (j : Int) := by omega
            have c0 := (HB6.out.cell (p := ⟨b, k, none⟩) hbl).trans HC0.out
            have c1 := (HB6.out.cell (p := ⟨G, k, none⟩) HW4.out.hd.lt).trans (HW4.out.head k hlt hlt)
            have c2 := (HB6.out.cell (p := ⟨b', j, none⟩) g2).trans (HG6.out j hjn)
            have c3 := (HB6.out.cell (p := ⟨G + 1 + k, j, none⟩) (HW4.out.row k hlt).lt).trans (HW4.out.cell k j hlt hjn)
            rw [HSM.out k j hlt hjn] at c2
            obtain ⟨s, hs⟩ : ∃ s, s = S k j := ⟨_, rfl⟩
            rw [← hs] at c2 c3
            have HB7 := HB6
            clear hs HB6
            cases s with
            | true =>
              rw [if_pos rfl] at c2
              go_upto_region 18 with (fail)
              go_quiet (fail)
              all_goals
                go_wp2_with fail
                go_roundw
                case rel => exact ⟨j + 1, by omega, by go_num, Lib.hid (below_drewN HB7.out _)⟩
                case measure => simp [intOf]; omega
            | false =>
              rw [if_neg (by simp)] at c2
              go_upto_region 18 with (fail)
              go_quiet (fail)
              all_goals
                go_wp2_with fail
                go_roundw
                case rel => exact ⟨j + 1, by omega, by go_num, Lib.hid (below_drewN HB7.out _)⟩
                case measure => simp [intOf]; omega
          · obtain rfl : j = n := by omega
            go_wp2_with fail
            go_roundw
            case rel => exact ⟨k + 1, by omega, by go_num, HB6⟩
            case measure => simp [intOf]; omega
      · obtain rfl : k = n := by omega
        have HBF : Hid (Below w.heap.size w wi) := Lib.hid (HB4.out.trans (HB5.out.mono HB4.out.size))
        go_wp2_with fail
        go_ret
        exact ⟨rfl, HBF.out⟩
  · have hfit2 : (rm : Int) < (L : Int) := by omega
    clear HBD
    go_wp2_with fail
    refine (HRO.out _).mono ?_
    rintro e w3 ⟨rfl, hb3⟩
    have HB3 : Hid (Below w.heap.size w w3) := Lib.hid (HB2.out.trans (hb3.mono HB2.out.size))
    go_wp2_with fail
    go_ret
    exact ⟨rfl, HB3.out⟩
end Go.Proofs.Ythkiajighmhdoaa
