/-
  The statement FnRSLogs, walked. No condition.
-/
import Derived.Test.YthagfgfefkpikaaRSL
import Derived.Deep.RegionHeld3
import Derived.Deep.DeepCutAuto
namespace Go.Proofs.Ythagfgfefkpikaa
open Go.RowKit Go.Qz Go.Qz.RS
set_option linter.unusedVariables false

theorem rem_run (a b c : Int) (h0 : ¬ b = 0) (h : a.tmod b = c) (W : World) : (binOp .rem 3 (.int .i64 a) (.int .i64 b)).run Try.prog W = .ok (.int .i64 c) W := by
  subst h
  show ((Op.intDiv .rem .i64 a b).run Try.prog W) = _
  unfold Op.intDiv
  simp [h0, go_sem]

set_option maxRecDepth 100000 in
set_option maxHeartbeats 1600000 in
theorem fnRSLogs (w : World) (a : Int) (ha : (Lit.int .u8 a).wf = true) (x : Int) (hx : (Lit.int .i64 x).wf = true) (y : Int) (hy : (Lit.int .i64 y).wf = true) :
    Calls Try.prog 3 #[.int .u8 a, .int .i64 x, .int .i64 y] w fun e w' => e = .returned (.bool true) ∧ Below w.heap.size w w' := by
  obtain ⟨a0, a1⟩ := bd_u8 ha
  have HX := Lib.hid (bd_i64 hx)
  have HY := Lib.hid (bd_i64 hy)
  clear hx hy ha
  go_enter Try.func3, Try.ntmps3
  go_wp2_with fail
  refine (rsField a a0 a1 w).mono ?_
  rintro e w1 ⟨F, rfl, hF, hb1⟩
  have hFb := hF.bounds
  have hb1' : Below w.heap.size w (w1.alloc (.cells #[.int .i64 F.prim, .int .i64 F.size, .int .i64 F.base] 23)) := hb1.alloc hb1.size _
  have hAr : Arr (w1.alloc (.cells #[.int .i64 F.prim, .int .i64 F.size, .int .i64 F.base] 23)) 23 w1.heap.size [.int .i64 F.prim, .int .i64 F.size, .int .i64 F.base] := Arr.new _ _ _
  obtain ⟨H0, hH0⟩ : ∃ H0, H0 = w1.heap.size := ⟨_, rfl⟩
  obtain ⟨w2, hw2⟩ : ∃ w2, w2 = w1.alloc (.cells #[.int .i64 F.prim, .int .i64 F.size, .int .i64 F.base] 23) := ⟨_, rfl⟩
  rw [← hw2, ← hH0] at hAr
  rw [← hw2] at hb1'
  obtain ⟨g, hg⟩ : ∃ g : Int → Nat, g = fun q => (q % (F.size : Int)).toNat := ⟨_, rfl⟩
  obtain ⟨X, hX⟩ : ∃ X, X = g x := ⟨_, rfl⟩
  obtain ⟨Y, hY⟩ : ∃ Y, Y = g y := ⟨_, rfl⟩
  have hXl : X < F.size := by
    rw [hX, hg]
    have := Int.emod_lt_of_pos x (show (0 : Int) < F.size by omega)
    have := Int.emod_nonneg x (show (F.size : Int) ≠ 0 by omega)
    show (x % (F.size : Int)).toNat < F.size
    omega
  have HX2 := (fun W q (hq : -9223372036854775808 ≤ q ∧ q ≤ 9223372036854775807) => (rsElement F ⟨hFb.1, hFb.2.1⟩ q hq.1 hq.2 W).mono (R' := fun e w' => e = .returned (.int .i64 (g q : Nat)) ∧ Below W.heap.size W w') (by rintro e w' ⟨q, rfl, hq, _, hb⟩; rw [hg]; dsimp only; rw [← hq]; exact ⟨rfl, hb⟩))
  obtain ⟨N, hN⟩ : ∃ N, N = Y % (F.size - 1) := ⟨_, rfl⟩
  have hNl : N < F.size - 1 := by rw [hN]; exact Nat.mod_lt _ (by omega)
  have hNe : (Y : Int) % ((F.size : Int) - 1) = (N : Int) := by rw [hN, show (F.size : Int) - 1 = ((F.size - 1 : Nat) : Int) by omega]; simp
  have hNt : (Y : Int).tmod ((F.size : Int) - 1) = (N : Int) := by rw [Int.tmod_eq_emod_of_nonneg (by omega)]; exact hNe
  have hn0 : ¬ (F.size : Int) - 1 = 0 := by omega
  have hwr : IntKind.i64.wrap ((F.size : Int) - 1) = (F.size : Int) - 1 := by rw [IntKind.wrap_i64]; omega
  have hrem := fun W => rem_run (Y : Int) ((F.size : Int) - 1) (N : Int) hn0 hNt W
  have hn1 : ((F.size : Int) - 1 == 0) = false := by simpa using hn0
  have hn2 : ¬ (F.size : Int) = 1 := by omega
  have hn3 : ¬ F.size = 1 := by omega
  have HW := Lib.hid hw2
  have HH := Lib.hid hH0
  have HGX := Lib.hid hX
  have HGY := Lib.hid hY
  clear hw2 hH0 hb1 hX hY hN hg
  unfold fv at HX2 ⊢
  have HX2 := Lib.hid HX2
  go_wp2_with fail
  rw [← HW.out, ← HH.out]
  have c0 := hAr.cell? 0
  have c1 := hAr.cell? 1
  have c2 := hAr.cell? 2
  simp only [List.getElem?_cons_zero, List.getElem?_cons_succ] at c0 c1 c2
  have HA := Lib.hid hAr
  have keep : ∀ W W' : World, (W.cell? ⟨H0, 0, none⟩ = some (.int .i64 F.prim) ∧ W.cell? ⟨H0, 1, none⟩ = some (.int .i64 F.size) ∧ W.cell? ⟨H0, 2, none⟩ = some (.int .i64 F.base) ∧ Hid (Below w2.heap.size w2 W)) → Below W.heap.size W W' →
      W'.cell? ⟨H0, 0, none⟩ = some (.int .i64 F.prim) ∧ W'.cell? ⟨H0, 1, none⟩ = some (.int .i64 F.size) ∧ W'.cell? ⟨H0, 2, none⟩ = some (.int .i64 F.base) ∧ Hid (Below w2.heap.size w2 W') := fun W W' hW hb => by
    have hB : Below w2.heap.size w2 W' := hW.2.2.2.out.trans (hb.mono hW.2.2.2.out.size)
    have hA := HA.out.below hB HA.out.lt
    have d0 := hA.cell? 0
    have d1 := hA.cell? 1
    have d2 := hA.cell? 2
    simp only [List.getElem?_cons_zero, List.getElem?_cons_succ] at d0 d1 d2
    exact ⟨d0, d1, d2, Lib.hid hB⟩
  have HX3 := Lib.hid (fun W hW q hq => (HX2.out W q hq).mono (fun e w' h => (⟨h.1, keep W w' hW h.2⟩ : e = .returned (.int .i64 (g q : Nat)) ∧ w'.cell? ⟨H0, 0, none⟩ = some (.int .i64 F.prim) ∧ w'.cell? ⟨H0, 1, none⟩ = some (.int .i64 F.size) ∧ w'.cell? ⟨H0, 2, none⟩ = some (.int .i64 F.base) ∧ Hid (Below w2.heap.size w2 w'))))
  have hs0 := keep w2 w2.drew ⟨c0, c1, c2, Lib.hid (Below.refl _ _)⟩ (Below.refl _ _).drew
  clear HW HH hAr keep HX2
  go_region_held3 (fun w' => w'.cell? ⟨H0, 0, none⟩ = some (.int .i64 F.prim) ∧ w'.cell? ⟨H0, 1, none⟩ = some (.int .i64 F.size) ∧ w'.cell? ⟨H0, 2, none⟩ = some (.int .i64 F.base) ∧ Hid (Below w2.heap.size w2 w'))
    (first | exact hs0 | exact hs3)
    (first | (go_at_call 10; refine (HX3.out _ (by assumption) _ (by first | exact HX.out | exact HY.out)).mono ?_; rintro e w3 ⟨rfl, hs3⟩; first | rw [← HGX.out] | rw [← HGY.out]))
  obtain ⟨d0, d1, d2, hB⟩ := hs3
  have hA3 := HA.out.below hB.out HA.out.lt
  have hbel : Below w.heap.size w w3 := hb1'.trans (hB.out.mono hb1'.size)
  have hNs : N < F.size := by omega
  have hEl : ex F N < F.size := ex_lt F (by omega) N
  have hE0 : ex F N ≠ 0 := by have := ex_pos hF N hNl; omega
  have hlgE : lg F (ex F N) = N := lg_ex hF hNl
  have HExp := Lib.hid (fieldExp F hF N hNs w3)
  have HLogX := (fun W => fieldLog F hF X hXl W)
  have HLogE := (fun W => fieldLog F hF (ex F N) hEl W)
  have HPowN := (fun W => rsPower F hF N (by omega) W)
  obtain ⟨E, hE⟩ : ∃ E, E = ex F N := ⟨_, rfl⟩
  rw [← hE] at HExp hEl hE0 hlgE HLogE HPowN
  have HlgE := Lib.hid hlgE
  have HE0 := Lib.hid hE0
  unfold fv at HExp HLogX HLogE HPowN
  have HLogX := Lib.hid HLogX
  have HLogE := Lib.hid HLogE
  have HPowN := Lib.hid HPowN
  have HA3 := Lib.hid hA3
  clear hE hlgE hE0 hB hA3 HX3 hs0 c0 c1 c2 HA HGX HGY hNe hNt hn0 hwr hrem hn1 hn2 hn3 HX2 HX HY hb1'
  go_wp2_with fail
  refine HExp.out.mono ?_
  rintro e w4 ⟨rfl, hb4⟩
  have hbel4 := hbel.trans (hb4.mono hbel.size)
  have HA4 := Lib.hid (HA3.out.below hb4 HA3.out.lt)
  clear d0 d1 d2 HExp hb4 HA3 hbel
  have d0 := HA4.out.cell? 0
  have d1 := HA4.out.cell? 1
  have d2 := HA4.out.cell? 2
  simp only [List.getElem?_cons_zero, List.getElem?_cons_succ] at d0 d1 d2
  have HLX := Lib.hid (HLogX.out w4)
  clear HLogX
  go_wp2_with fail
  refine HLX.out.mono ?_
  rintro e w5 ⟨l, b, rfl, hb5, hbx, hlx⟩
  have hbel5 := hbel4.trans (hb5.mono hbel4.size)
  have HA5 := Lib.hid (HA4.out.below hb5 HA4.out.lt)
  have HBX := Lib.hid hbx
  have HLX' := Lib.hid hlx
  clear d0 d1 d2 hb5 HA4 hbel4 HLX hbx hlx
  have d0 := HA5.out.cell? 0
  have d1 := HA5.out.cell? 1
  have d2 := HA5.out.cell? 2
  simp only [List.getElem?_cons_zero, List.getElem?_cons_succ] at d0 d1 d2
  have HLE := Lib.hid (HLogE.out w5)
  clear HLogE
  go_wp2_with fail
  refine HLE.out.mono ?_
  rintro e w6 ⟨l2, b2, rfl, hb6, hbe, hle⟩
  have hbel6 := hbel5.trans (hb6.mono hbel5.size)
  have HA6 := Lib.hid (HA5.out.below hb6 HA5.out.lt)
  obtain rfl : l2 = N := by rw [hle HE0.out]; exact HlgE.out
  have hb2t : b2 = true := by rw [hbe]; simp [HE0.out]
  clear hbe hle
  subst hb2t
  clear d0 d1 d2 hb6 HA5 hbel5 HLE
  have d0 := HA6.out.cell? 0
  have d1 := HA6.out.cell? 1
  have d2 := HA6.out.cell? 2
  simp only [List.getElem?_cons_zero, List.getElem?_cons_succ] at d0 d1 d2
  have HPN := Lib.hid (HPowN.out w6)
  clear HPowN
  go_wp2_with fail
  refine HPN.out.mono ?_
  rintro e w7 ⟨rfl, hb7⟩
  have hbel7 := hbel6.trans (hb7.mono hbel6.size)
  have HA7 := Lib.hid (HA6.out.below hb7 HA6.out.lt)
  clear d0 d1 d2 hb7 HA6 hbel6 HPN
  by_cases hX0 : X = 0
  · have hbf : b = false := by rw [HBX.out]; simp [hX0]
    subst hX0 hbf
    clear HBX HLX'
    go_wp2_with fail
    go_ret
    exact ⟨rfl, hbel7⟩
  · have hbf : b = true := by rw [HBX.out]; simp [hX0]
    have hl := HLX'.out hX0
    obtain ⟨h1, h2⟩ := ex_lg hF (by omega) hXl
    rw [← hl] at h1 h2
    subst hbf
    have h3 : (decide ((l : Int) < (F.size : Int) - 1)) = true := by simp; omega
    have h4 : (l : Int) < (F.size : Int) - 1 := by omega
    have h5 : ((X : Int) != 0) = true := by simpa using hX0
    have h6 : ¬ (X : Int) = 0 := by omega
    clear HBX HLX' hl
    have d0 := HA7.out.cell? 0
    have d1 := HA7.out.cell? 1
    have d2 := HA7.out.cell? 2
    simp only [List.getElem?_cons_zero, List.getElem?_cons_succ] at d0 d1 d2
    have HPL := (rsPower F hF l (by omega) w7)
    rw [h2] at HPL
    unfold fv at HPL
    have HPL := Lib.hid HPL
    clear h2
    go_wp2_with fail
    refine HPL.out.mono ?_
    rintro e w8 ⟨rfl, hb8⟩
    have hbel8 := hbel7.trans (hb8.mono hbel7.size)
    go_wp2_with fail
    go_ret
    exact ⟨rfl, hbel8⟩
end Go.Proofs.Ythagfgfefkpikaa
