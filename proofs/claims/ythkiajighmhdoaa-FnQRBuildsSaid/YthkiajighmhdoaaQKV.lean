/-
  The version drawn into the matrix, walked. No condition beyond the bounds that the theorem states.
-/
import Derived.Test.YthkiajighmhdoaaQKJ
namespace Go.Proofs.Ythkiajighmhdoaa
open Go.RowKit Go.Qz Go.Qz.QK Go.Qz.QW Go.Qz.QB
set_option linter.unusedVariables false

variable {w w' : World} {M B n : Nat} {g g' : G}
set_option maxRecDepth 100000 in
set_option maxHeartbeats 6400000 in
theorem embVer (v pv : Nat) (hv1 : 1 ≤ v) (hv : v ≤ 40) (hnv : n = dimOf v) (hp : pv < B) (hc : w.cell? ⟨pv, 0, none⟩ = some (.int .i64 v)) (h : MG w M B n g) :
    Calls Try.prog 70 #[.pointer (some ⟨pv, 0, none⟩), .pointer (some ⟨M, 0, none⟩)] w (Emb1 M B n (f6 n (vb v) (if 7 ≤ v then 18 else 0) g) w) := by
  have HV := Lib.hid (verNum pv v w hc)
  have H0 := Lib.hid h
  have HLT := Lib.hid h.lt
  by_cases h7 : 7 ≤ v
  · rw [if_pos h7]
    have h7i : ((v : Int) < 7) = False := by simp; omega
    have hn45 : 45 ≤ n := by rw [hnv]; unfold dimOf; omega
    have hn : n ≤ 400 := by rw [hnv]; unfold dimOf; omega
    have hne := neqW
    have hpvM : pv < M := by have := h.lt; omega
    have HPV := Lib.hid hp
    have HPM0 := Lib.hid hpvM
    have HC := Lib.hid hc
    have HTB := Lib.hid (fun p k W h1 h2 hW => verBits v pv p k hv1 hv h1 W h2 hW)
    have HF0 : Hid (∀ r c, r < n → c < n → g r c = f6 n (vb v) ((0 : Nat) : Int) g r c) := Lib.hid (fun r c _ _ => by unfold f6; rw [if_neg (by omega)])
    obtain ⟨x, hx⟩ : ∃ x, x = vb v := ⟨_, rfl⟩
    rw [← hx] at HTB HF0 ⊢
    obtain ⟨A, hA⟩ : ∃ A, A = n - 11 := ⟨_, rfl⟩
    have eA : (n : Int) - 11 = (A : Int) := by omega
    have hA11 : A + 11 = n := by omega
    clear h hv1 hv hnv hp hc hx h7 hpvM
    have HAE := Lib.hid hA
    clear hA
    go_enter Try.func70, Try.ntmps70
    go_wp2_with fail
    refine HV.out.mono ?_
    rintro e w1 ⟨rfl, rfl⟩
    go_wp2_with fail
    refine (newEmpty w).mono ?_
    rintro e w1 ⟨p, k, rfl, HE, HBE, HQ⟩
    have H1 := Lib.hid (H0.out.below HBE.out)
    have M1 : Hid (Mod (MatS B M) w w1) := Lib.hid (Mod.of_below HBE.out)
    have hpvl := World.block_lt_of_cell? _ _ HC.out
    have HT := Lib.hid (HTB.out p k w1 (by have := HQ.out; have hpvl : pv < w.heap.size := hpvl; omega) ((HBE.out.cell (p := ⟨pv, 0, none⟩) hpvl).trans HC.out) HE.out)
    have HPM : Hid (M < p ∧ M < k) := Lib.hid (by have := H0.out.mlt; have := HQ.out; omega)
    have HLS : Hid (w.heap.size ≤ p ∧ w.heap.size ≤ k) := Lib.hid ⟨HQ.out.1, HQ.out.2.1⟩
    clear HE HBE HQ HTB H0 hpvl
    go_wp2_with fail
    refine HT.out.mono ?_
    rintro e w2 ⟨rfl, k2, z, HZ, HZV, HM2, HG2⟩
    have H2 := Lib.hid (H1.out.mod HM2.out (fun j h1 h2 hh => by have := HPM.out; rcases hh with hh | hh <;> omega))
    have M2 : Hid (Mod (MatS B M) w w2) := Lib.hid (M1.out.then HM2.out (fun i hi hh => by have := HLS.out; rcases hh with hh | hh <;> omega))
    have HK2 : Hid (M < p ∧ M < k2) := Lib.hid (by have := HPM.out; have := H1.out.mlt; rcases HG2.out with h | h <;> omega)
    have HNS : Hid (¬ MatS B M p ∧ ¬ MatS B M k2) := Lib.hid (by have := HK2.out; unfold MatS; omega)
    clear HT H1 M1 HM2 HG2 HPM HLS
    go_wp2_with fail
    go_loopw [7, 8] (fun bi i wr => ∃ (t : Nat) (s : Int) (q : G), t ≤ 6 ∧ s = 17 - 3 * (t : Int) ∧ bi = .int .i64 s ∧ i = .int .i64 t ∧ Hid (MG wr M B n q) ∧ Hid (∀ r c, r < n → c < n → q r c = f6 n x ((3 * t : Nat) : Int) g r c) ∧ Hid (BitsZ wr p k2 18 32 z) ∧ Hid (Mod (MatS B M) w wr)) (fun _ i _ => 6 - (intOf i).toNat)
    case atStart => exact ⟨0, 17, g, by omega, by omega, rfl, rfl, H2, HF0, HZ, M2⟩
    case round =>
      obtain ⟨t, s, q, ht, hs, rfl, rfl, HG, HQ, HBZ, HB⟩ := hrel
      obtain ⟨wi, hwi⟩ : ∃ wi, wi = wr := ⟨_, rfl⟩
      rw [← hwi] at HG HBZ HB ⊢
      clear hwi H2 HF0 HZ M2
      by_cases ht6 : t < 6
      · have ht1 : (t : Int) < 6 := by omega
        have ht0 : (0 : Int) ≤ (t : Int) := by omega
        have HS := Lib.hid hs
        have hsb : -1 ≤ s ∧ s ≤ 17 := by omega
        clear hs
        go_wp2_with fail
        go_loopw [7, 9] (fun bi i wr => ∃ (u : Nat) (s2 : Int) (q2 : G), u ≤ 3 ∧ s2 = 17 - 3 * (t : Int) - u ∧ bi = .int .i64 s2 ∧ i = .int .i64 u ∧ Hid (MG wr M B n q2) ∧ Hid (∀ r c, r < n → c < n → q2 r c = f6 n x ((3 * t + u : Nat) : Int) g r c) ∧ Hid (BitsZ wr p k2 18 32 z) ∧ Hid (Mod (MatS B M) w wr)) (fun _ i _ => 3 - (intOf i).toNat)
        case atStart => exact ⟨0, s, q, by omega, by have := HS.out; omega, rfl, rfl, HG, HQ, HBZ, HB⟩
        case round =>
          obtain ⟨u, s2, q2, hu, hs2, rfl, rfl, HG2, HQ2, HBZ2, HB2⟩ := hrel
          obtain ⟨wj, hwj⟩ : ∃ wj, wj = wr := ⟨_, rfl⟩
          rw [← hwj] at HG2 HBZ2 HB2 ⊢
          clear hwj HG HQ HBZ HB
          by_cases hu3 : u < 3
          · have hu1 : (u : Int) < 3 := by omega
            have hu0 : (0 : Int) ≤ (u : Int) := by omega
            obtain ⟨j, rfl⟩ : ∃ j : Nat, s2 = j := ⟨s2.toNat, by omega⟩
            have hj32 : j < 32 := by omega
            obtain ⟨j2, hj2⟩ : ∃ j2 : Int, j2 = (j : Int) - 1 := ⟨_, rfl⟩
            have hj2e : (j : Int) - 1 = j2 := hj2.symm
            have hj2b : -1 ≤ j2 ∧ j2 ≤ 17 := by omega
            have HJ2 : Hid (j2 = 17 - 3 * (t : Int) - ((u + 1 : Nat) : Int)) := Lib.hid (by omega)
            have HGT := Lib.hid (bzGet p k2 18 z j hj32 wj HBZ2.out)
            have hzj : z j = x.testBit (3 * t + u) := by rw [HZV.out j (by omega)]; congr 1; omega
            rw [hzj] at HGT
            obtain ⟨b, hb⟩ : ∃ b, b = x.testBit (3 * t + u) := ⟨_, rfl⟩
            rw [← hb] at HGT
            have HBT := Lib.hid hb
            obtain ⟨Y, hY⟩ : ∃ Y, Y = A + u := ⟨_, rfl⟩
            have eY : (A : Int) + (u : Int) = (Y : Int) := by omega
            have hYn : Y < n := by omega
            have htn : t < n := by omega
            have HH1 := Lib.hid (mat_height M B n _ wj HG2.out)
            have HC1 := Lib.hid (mSetB t Y b htn hYn hn HG2.out)
            have HG4 := Lib.hid (HG2.out.set_ (r0 := Y) (c0 := t) hYn (b8 b))
            have HB4 := Lib.hid (Mod.mset HB2.out HLT.out (c0 := t) hYn (.int .i8 (b8 b)))
            have HBZ4 := Lib.hid (HBZ2.out.mod (Mod.mset (Mod.refl (S := MatS B M) wj) HLT.out (c0 := t) hYn (.int .i8 (b8 b))) HNS.out.1 HNS.out.2)
            obtain ⟨w4, hw4⟩ : ∃ w4, w4 = wj.setCell ⟨B + 1 + Y, t, none⟩ (.int .i8 (b8 b)) := ⟨_, rfl⟩
            rw [← hw4] at HC1 HG4 HB4 HBZ4
            have HH2 := Lib.hid (mat_height M B n _ w4 HG4.out)
            have HC2 := Lib.hid (mSetB Y t b hYn htn hn HG4.out)
            have HG5 := Lib.hid (HG4.out.set_ (r0 := t) (c0 := Y) htn (b8 b))
            have HB5 := Lib.hid (Mod.mset HB4.out HLT.out (c0 := Y) htn (.int .i8 (b8 b)))
            have HBZ5 := Lib.hid (HBZ4.out.mod (Mod.mset (Mod.refl (S := MatS B M) w4) HLT.out (c0 := Y) htn (.int .i8 (b8 b))) HNS.out.1 HNS.out.2)
            have HQ5 : Hid (∀ r c, r < n → c < n → upd (upd q2 Y t (b8 b)) t Y (b8 b) r c = f6 n x ((3 * t + (u + 1) : Nat) : Int) g r c) := Lib.hid (fun r c hr hc => by
              rw [HBT.out, hY, HAE.out]
              exact f6_step n x t u q2 g (by omega) ht6 hu3 HQ2.out r c hr hc)
            have hAl : A ≤ 400 := by omega
            have hYl : Y ≤ 400 := by omega
            clear hs2 hj2 hzj hb hY HG2 HBZ2 HB2 HG4 HB4 HBZ4 hw4 HS
            go_wp2_with fail
            refine HGT.out.mono ?_
            rintro e w5 ⟨rfl, rfl⟩
            go_wp2_with fail
            refine HH1.out.mono ?_
            rintro e w5 ⟨rfl, rfl⟩
            go_wp2_with fail
            refine HC1.out.mono ?_
            rintro e w5 ⟨rfl, rfl⟩
            go_wp2_with fail
            refine HH2.out.mono ?_
            rintro e w5 ⟨rfl, rfl⟩
            go_wp2_with fail
            refine HC2.out.mono ?_
            rintro e w5 ⟨rfl, rfl⟩
            go_wp2_with fail
            go_roundw
            case rel => exact ⟨u + 1, j2, _, by omega, HJ2.out, rfl, by go_num, HG5, HQ5, HBZ5, HB5⟩
            case measure => simp [intOf]; omega
          · obtain rfl : u = 3 := by omega
            go_wp2_with fail
            go_roundw
            case rel => exact ⟨t + 1, s2, q2, by omega, by omega, rfl, by go_num, HG2, HQ2, HBZ2, HB2⟩
            case measure => simp [intOf]; omega
      · obtain rfl : t = 6 := by omega
        go_wp2_with fail
        go_ret
        exact ⟨rfl, Lib.hid (HG.out.congr fun r c hr hc => HQ.out r c hr hc), HB⟩
  · rw [if_neg h7]
    have h7i : (v : Int) < 7 := by omega
    clear h hv1 hv hnv hp hc h7
    go_enter Try.func70, Try.ntmps70
    go_wp2_with fail
    refine HV.out.mono ?_
    rintro e w1 ⟨rfl, rfl⟩
    go_wp2_with fail
    go_ret
    exact ⟨rfl, Lib.hid (H0.out.congr fun r c hr hc => by unfold f6; rw [if_neg (by omega)]), Lib.hid (Mod.refl _)⟩
end Go.Proofs.Ythkiajighmhdoaa
