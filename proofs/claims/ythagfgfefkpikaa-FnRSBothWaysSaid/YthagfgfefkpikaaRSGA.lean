/-
  The statement FnRSBothWays, walked. No condition.
-/
import Derived.Test.YthagfgfefkpikaaRSE7
import Derived.Test.YthagfgfefkpikaaRSG8
import Derived.Test.YthagfgfefkpikaaRSG9
namespace Go.Proofs.Ythagfgfefkpikaa
open Go.RowKit Go.Qz Go.Qz.RS
set_option linter.unusedVariables false

/-- A received word that can be put right. -/
def Ready (F : Fld) (L : List Nat) (N many : Nat) (W : World) (v : Value) : Prop :=
  ∃ (A : Option Addr) (c : Nat) (R J : List Nat) (Y : Nat → Nat), v = .slice A N c ∧ N ≤ c ∧ Rd W A N (fun j => .int .i64 (nth R j : Nat)) ∧ El F R ∧ J.Nodup ∧ (∀ j ∈ J, j < L.length) ∧ 2 * J.length ≤ many ∧ (∀ j, Y j < F.size) ∧ (∀ j, Y j ≠ 0) ∧ Rcv F Y L R J
theorem ready_dec (F : Fld) (hF : Six F) (L : List Nat) (N many : Nat) (hL : El F L) (hn : N = L.length) (hn0 : 0 < N) (hnl : N ≤ F.size - 1) (hM : 2 ≤ many) (hMl : many ≤ 1000) (hMs : many + 1 < F.size) (hroot : ∀ i, i < many → ev F L (ex F (i + F.base)) = 0) (W : World) (v : Value) (h : Ready F L N many W v) :
    Calls Try.prog 29 #[fv F, v, .int .i64 many] W (RDPost L N W) := by
  obtain ⟨A, c, R, J, Y, rfl, hc, hrd, hre, nd, hJ, hν, hY, hY0, hr⟩ := h
  exact rsDecode F hF many N hM hMl hMs L R J Y hY hY0 hL hre nd hJ hν hn hn0 hnl hroot hr A c W hc hrd

set_option maxRecDepth 100000 in
set_option maxHeartbeats 6400000 in
theorem fnRSBothWays (w : World) (a : Int) (ha : (Lit.int .u8 a).wf = true) (A : Option Addr) (n c : Nat) (z : Nat → Int) (hnc : n ≤ c) (hcm : c ≤ maxLen) (hz : ∀ j, j < n → (Lit.int .i64 (z j)).wf = true) (h : Rd w A n (fun j => .int .i64 (z j))) (b : Int) (hb : (Lit.int .u8 b).wf = true) (A1 : Option Addr) (n1 c1 : Nat) (z1 : Nat → Int) (hnc1 : n1 ≤ c1) (hcm1 : c1 ≤ maxLen) (hz1 : ∀ j, j < n1 → (Lit.int .u16 (z1 j)).wf = true) (h1 : Rd w A1 n1 (fun j => .int .u16 (z1 j)))
    (A2 : Option Addr) (n2 c2 : Nat) (z2 : Nat → Int) (hnc2 : n2 ≤ c2) (hcm2 : c2 ≤ maxLen) (hz2 : ∀ j, j < n2 → (Lit.int .u16 (z2 j)).wf = true) (h2 : Rd w A2 n2 (fun j => .int .u16 (z2 j))) :
    Calls Try.prog 8 #[.int .u8 a, .slice A n c, .int .u8 b, .slice A1 n1 c1, .slice A2 n2 c2] w fun e w' => e = .returned (.bool true) ∧ Below w.heap.size w w' := by
  obtain ⟨a0, a1⟩ := bd_u8 ha
  obtain ⟨b0, b1⟩ := bd_u8 hb
  have HZ := Lib.hid (fun j hj => bd_i64 (hz j hj))
  have HZ1 := Lib.hid (fun j hj => bd_u16 (hz1 j hj))
  have HZ2 := Lib.hid (fun j hj => bd_u16 (hz2 j hj))
  have HA := Lib.hid h
  have HR1 := Lib.hid h1
  have HR2 := Lib.hid h2
  clear hz ha h hb hz1 hz2 h1 h2 hnc1 hnc2 hcm1 hcm2
  by_cases hbig1 : (2147483647 : Int) < n1
  · by_cases hbig : (2147483647 : Int) < n
    · go_enter Try.func8, Try.ntmps8
      go_wp2_with fail
      go_ret
      exact ⟨rfl, Below.refl _ _⟩
    · go_enter Try.func8, Try.ntmps8
      go_wp2_with fail
      go_ret
      exact ⟨rfl, Below.refl _ _⟩
  by_cases hbig2 : (2147483647 : Int) < n2
  · by_cases hbig : (2147483647 : Int) < n
    · go_enter Try.func8, Try.ntmps8
      go_wp2_with fail
      go_ret
      exact ⟨rfl, Below.refl _ _⟩
    · go_enter Try.func8, Try.ntmps8
      go_wp2_with fail
      go_ret
      exact ⟨rfl, Below.refl _ _⟩
  by_cases hbig : (2147483647 : Int) < n
  · go_enter Try.func8, Try.ntmps8
    go_wp2_with fail
    go_ret
    exact ⟨rfl, Below.refl _ _⟩
  have hn : n < 2147483648 := by omega
  go_enter Try.func8, Try.ntmps8
  go_wp2_with fail
  refine (rsField a a0 a1 w).mono ?_
  rintro e w1 ⟨F, rfl, hF, hb1⟩
  have hFb := hF.bounds
  have hb1' : Below w.heap.size w (w1.alloc (.cells #[.int .i64 F.prim, .int .i64 F.size, .int .i64 F.base] 23)) := hb1.alloc hb1.size _
  have hAr : Arr (w1.alloc (.cells #[.int .i64 F.prim, .int .i64 F.size, .int .i64 F.base] 23)) 23 w1.heap.size [.int .i64 F.prim, .int .i64 F.size, .int .i64 F.base] := Arr.new _ _ _
  obtain ⟨H0, hH0⟩ : ∃ H0, H0 = w1.heap.size := ⟨_, rfl⟩
  obtain ⟨w2, hw2⟩ : ∃ w2, w2 = w1.alloc (.cells #[.int .i64 F.prim, .int .i64 F.size, .int .i64 F.base] 23) := ⟨_, rfl⟩
  rw [← hw2, ← hH0] at hAr
  rw [← hw2] at hb1'
  have HW := Lib.hid hw2
  have HH := Lib.hid hH0
  clear hw2 hH0 hb1
  have HWD := rsWords F hF (six_16 hF) z A n c b b0 b1 w2 (by omega) HZ.out (HA.out.below hb1')
  unfold fv at HWD ⊢
  have HWD := Lib.hid HWD
  obtain ⟨c0, c1, c2⟩ := fcells hAr
  have HAr := Lib.hid hAr
  have HB2 := Lib.hid hb1'
  clear hAr hb1'
  go_wp2_with fail
  rw [← HW.out, ← HH.out]
  go_wp2_with fail
  refine HWD.out.mono ?_
  rintro e w3 ⟨A3, c3, many, data, rfl, hs3, hde, hm2, hms, hdm, hd255, hm41, hb3⟩
  have HS3 := Lib.hid hs3
  have HDE := Lib.hid hde
  have HA3 := Lib.hid (HAr.out.below hb3 HAr.out.lt)
  have HB3 := Lib.hid (HB2.out.trans (hb3.mono HB2.out.size))
  have hc3 := hs3.1
  clear hs3 hde hb3 HWD c0 c1 c2 HAr HB2
  by_cases hd0 : data = []
  · have hdec : decide (data ≠ []) = false := by simp [hd0]
    rw [hdec]
    clear hd0 hdec
    go_wp2_with fail
    go_ret
    exact ⟨rfl, HB3.out⟩
  · have hdec : decide (data ≠ []) = true := by simp [hd0]
    rw [hdec]
    have hdp := List.length_pos_iff.2 hd0
    have HD0 := Lib.hid hd0
    have HEN := implEncode F hF data many A3 c3 (by omega) (by omega) hd0 (by omega) HDE.out w3 HS3.out.rd
    unfold fv at HEN
    have HEN := Lib.hid HEN
    obtain ⟨c0, c1, c2⟩ := fcells HA3.out
    clear hd0 hdec
    go_wp2_with fail
    refine HEN.out.mono ?_
    rintro e w4 ⟨A4, c4, q, r, rfl, hs4, hc4m, hcl, hqe, hre, hqn, hrl, hlaw, hb4⟩
    have HA4 := Lib.hid (HA3.out.below hb4 HA3.out.lt)
    have HB4 := Lib.hid (HB3.out.trans (hb4.mono HB3.out.size))
    have HS3' := Lib.hid (HS3.out.below hb4)
    have HEL := Lib.hid (coded_el hF many HDE.out hre)
    have HROOT := Lib.hid (fun i hi => coded_root hF HDE.out HD0.out hqe hre hqn hrl hlaw i hi)
    obtain ⟨L, hL⟩ : ∃ L, L = coded data r many := ⟨_, rfl⟩
    rw [← hL] at hs4 hcl HEL HROOT
    have HS4 := Lib.hid hs4
    have HIN := rsIn F hF L (by omega) HEL.out A4 c4 w4 hs4.rd
    rw [hcl] at HIN
    unfold fv at HIN
    have HIN := Lib.hid HIN
    have HCL := Lib.hid hcl
    obtain ⟨d0, d1, d2⟩ := fcells HA4.out
    have hc4 := hs4.1
    obtain ⟨N, hN⟩ : ∃ N, N = data.length + many := ⟨_, rfl⟩
    rw [← hN] at HIN HCL
    have eN : (data.length : Int) + (many : Int) = (N : Int) := by omega
    have g1 : ((N : Int) == (N : Int)) = true := by simp
    have g2 : data.length ≤ c4 := by omega
    have g3 : (data.length : Int) ≤ (c4 : Int) := by omega
    have g4 : (0 : Int) ≤ (data.length : Int) := by omega
    rw [← hN]
    have hNl : N ≤ 255 := by omega
    clear hs4 hb4 hL hcl hqe hre hqn hlaw hN c0 c1 c2 HEN HA3 HB3 HS3 hc4m hcm
    go_wp2_with fail
    refine HIN.out.mono ?_
    rintro e w5 ⟨rfl, hb5⟩
    have HA5 := Lib.hid (HA4.out.below hb5 HA4.out.lt)
    have HB5 := Lib.hid (HB4.out.trans (hb5.mono HB4.out.size))
    have HS45 := Lib.hid (HS4.out.below hb5)
    obtain ⟨hm, hhm⟩ : ∃ hm, hm = many / 2 := ⟨_, rfl⟩
    have ed : (many : Int).tdiv 2 = (hm : Int) := by rw [Int.tdiv_eq_ediv_of_nonneg (by omega)]; omega
    have hwd : IntKind.i64.wrap ((many : Int) / 2) = (hm : Int) := by rw [IntKind.wrap_i64]; omega
    have hwh : IntKind.i64.wrap (hm : Int) = (hm : Int) := by rw [IntKind.wrap_i64]; omega
    have hN1 : 0 < N := by omega
    have hrd45 := HS45.out.rd
    rw [HCL.out] at hrd45
    obtain ⟨d0, d1, d2⟩ := fcells HA5.out
    have keep : ∀ W W' : World, (W.cell? ⟨H0, 0, none⟩ = some (.int .i64 F.prim) ∧ W.cell? ⟨H0, 1, none⟩ = some (.int .i64 F.size) ∧ W.cell? ⟨H0, 2, none⟩ = some (.int .i64 F.base) ∧ Hid (Below w5.heap.size w5 W)) → Below W.heap.size W W' → (W'.cell? ⟨H0, 0, none⟩ = some (.int .i64 F.prim) ∧ W'.cell? ⟨H0, 1, none⟩ = some (.int .i64 F.size) ∧ W'.cell? ⟨H0, 2, none⟩ = some (.int .i64 F.base) ∧ Hid (Below w5.heap.size w5 W')) := fun W W' hW hb => by
      have hB : Below w5.heap.size w5 W' := hW.2.2.2.out.trans (hb.mono hW.2.2.2.out.size)
      obtain ⟨f0, f1, f2⟩ := fcells (HA5.out.below hB HA5.out.lt)
      exact ⟨f0, f1, f2, Lib.hid hB⟩
    have HXH := fun (W : World) (hW : (W.cell? ⟨H0, 0, none⟩ = some (.int .i64 F.prim) ∧ W.cell? ⟨H0, 1, none⟩ = some (.int .i64 F.size) ∧ W.cell? ⟨H0, 2, none⟩ = some (.int .i64 F.base) ∧ Hid (Below w5.heap.size w5 W))) =>
      (rsHurt F hF L N HEL.out HCL.out.symm hN1 (by omega) hm (by omega) A4 A1 A2 c4 n1 c1 n2 c2 z1 z2 (by omega) (by omega) HZ1.out HZ2.out W (hrd45.below hW.2.2.2.out) ((HR1.out.below HB5.out).below hW.2.2.2.out) ((HR2.out.below HB5.out).below hW.2.2.2.out)).mono (R' := fun e w' => ∃ v, e = .returned v ∧ Hid (Ready F L N many w' v) ∧ (w'.cell? ⟨H0, 0, none⟩ = some (.int .i64 F.prim) ∧ w'.cell? ⟨H0, 1, none⟩ = some (.int .i64 F.size) ∧ w'.cell? ⟨H0, 2, none⟩ = some (.int .i64 F.base) ∧ Hid (Below w5.heap.size w5 w'))) (by
        rintro e w' ⟨R, H, A6, c6, rfl, hs6, hrl6, hre6, hHl, hdiff, hb6⟩
        obtain ⟨J, Y, nd, hJl, hJn, hYl, hY0, hrcv⟩ := rcv_of hF (L := L) (R := R) (H := H) HEL.out hre6 (by rw [hrl6, HCL.out]) (fun k hk hm => hdiff k (by rw [← HCL.out]; exact hk) hm)
        have hrd6 := hs6.rd
        rw [hrl6] at hrd6
        have hc6 := hs6.1
        rw [hrl6] at hc6
        exact ⟨_, rfl, Lib.hid ⟨A6, c6, R, J, Y, rfl, hc6, hrd6, hre6, nd, hJn, by omega, hYl, hY0, hrcv⟩, keep W w' hW hb6⟩)
    have HXD := fun (W : World) (hW : (W.cell? ⟨H0, 0, none⟩ = some (.int .i64 F.prim) ∧ W.cell? ⟨H0, 1, none⟩ = some (.int .i64 F.size) ∧ W.cell? ⟨H0, 2, none⟩ = some (.int .i64 F.base) ∧ Hid (Below w5.heap.size w5 W))) (v : Value) (hv : Ready F L N many W v) =>
      (ready_dec F hF L N many HEL.out HCL.out.symm hN1 (by omega) (by omega) (by omega) (by omega) HROOT.out W v hv).mono (R' := fun e w' => ∃ A7 c7, e = .returned (.tuple #[.slice A7 N c7, .bool true]) ∧ Hid (SlQ w' (fun _ => True) A7 L c7) ∧ (w'.cell? ⟨H0, 0, none⟩ = some (.int .i64 F.prim) ∧ w'.cell? ⟨H0, 1, none⟩ = some (.int .i64 F.size) ∧ w'.cell? ⟨H0, 2, none⟩ = some (.int .i64 F.base) ∧ Hid (Below w5.heap.size w5 w'))) (by
        rintro e w' ⟨A7, c7, rfl, hs7, hb7⟩
        exact ⟨A7, c7, rfl, Lib.hid ⟨hs7.1, fun h0 => by
          obtain ⟨b, o, h1, _, h3, h4⟩ := hs7.2 h0
          exact ⟨b, o, h1, trivial, h3, h4⟩⟩, keep W w' hW hb7⟩)
    unfold fv at HXH HXD
    have HXH0 := Lib.hid HXH
    have HXD0 := Lib.hid HXD
    clear HXH HXD

    have hs0 := keep w5 w5.drew ⟨d0, d1, d2, Lib.hid (Below.refl _ _)⟩ (Below.refl _ _).drew
    clear hb5 hrd45 HIN HA4 HB4 HS3' HS4 keep hhm
    go_wp2_with fail
    go_region_held3 (fun w' => w'.cell? ⟨H0, 0, none⟩ = some (.int .i64 F.prim) ∧ w'.cell? ⟨H0, 1, none⟩ = some (.int .i64 F.size) ∧ w'.cell? ⟨H0, 2, none⟩ = some (.int .i64 F.base) ∧ Hid (Below w5.heap.size w5 w'))
      (first | exact hs0 | exact hs3 | exact hs4 | go_keep)
      (first | (go_at_call 30; refine (HXH0.out _ (by assumption)).mono ?_; rintro e w3 ⟨v, rfl, hrdy, hs3⟩) | (go_at_call 29; refine (HXD0.out _ (by assumption) _ (by exact hrdy.out)).mono ?_; rintro e w4 ⟨A7, c7, rfl, hs7, hs4⟩))
    all_goals
      have HB7 := Lib.hid (HB5.out.trans (hs4.2.2.2.out.mono HB5.out.size))
      have HS47 := Lib.hid (HS45.out.below hs4.2.2.2.out)
      have hrda := hs7.out.rd
      rw [HCL.out] at hrda
      have hrdb := HS47.out.rd
      rw [HCL.out] at hrdb
      have HSame := Lib.hid (rsSame A7 A4 N N c7 c4 (fun j => (nth L j : Nat)) (fun j => (nth L j : Nat)) w4 (by omega) (by omega) hrda hrdb)
      have k0 := hs4.1
      have k1 := hs4.2.1
      have k2 := hs4.2.2.1
      clear hrda hrdb hs4 hs3 hs0 HXH0 HXD0 hs7
      go_wp2_with fail
      refine HSame.out.mono ?_
      rintro e w8 ⟨bo, rfl, hbo, hb8⟩
      have hbt : bo = true := hbo.2 ⟨rfl, fun j hj => rfl⟩
      subst hbt
      go_wp2_with fail
      go_ret
      exact ⟨rfl, HB7.out.trans (hb8.mono HB7.out.size)⟩
end Go.Proofs.Ythagfgfefkpikaa
