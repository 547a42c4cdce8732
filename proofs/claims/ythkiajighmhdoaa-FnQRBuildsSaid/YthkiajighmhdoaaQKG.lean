/-
  Alignment patterns; all patterns without format, version and data, walked. No condition beyond the bounds that each theorem states.
-/
import Derived.Test.YthkiajighmhdoaaQKF
namespace Go.Proofs.Ythkiajighmhdoaa
open Go.RowKit Go.Qz Go.Qz.QK Go.Qz.QW
set_option linter.unusedVariables false

variable {w w' : World} {M B n : Nat} {g g' : G}
set_option maxRecDepth 100000 in
theorem verNum (p : Nat) (v : Int) (w : World) (h : w.cell? ⟨p, 0, none⟩ = some (.int .i64 v)) :
    Calls Try.prog 81 #[.pointer (some ⟨p, 0, none⟩)] w fun e w' => e = .returned (.int .i64 v) ∧ w = w' := by
  go_enter Try.func81, Try.ntmps81
  go_wp2_with fail
  go_ret
  exact ⟨rfl, rfl⟩
set_option maxRecDepth 100000 in
theorem verDim (p v d : Nat) (hd : d = dimOf v) (hv : v ≤ 40) (w : World) (h : w.cell? ⟨p, 0, none⟩ = some (.int .i64 v)) :
    Calls Try.prog 30 #[.pointer (some ⟨p, 0, none⟩)] w fun e w' => e = .returned (.int .i64 d) ∧ w = w' := by
  have e1 : (17 : Int) + 4 * (v : Int) = (d : Int) := by rw [hd]; unfold dimOf; omega
  clear hd
  go_enter Try.func30, Try.ntmps30
  go_wp2_with fail
  go_ret
  exact ⟨by first | rfl | rw [e1], rfl⟩
theorem cor_all : ((List.range 40).all fun v => decide (manyOf (v + 1) ≤ 7) && (List.range 7).all fun i => decide ((corT.getD v []).getD i 0 = if i < manyOf (v + 1) then ((nth (cenOf (v + 1)) i : Nat) : Int) else -1)) = true := by decide +kernel
theorem cor_at (v : Nat) (h1 : 1 ≤ v) (h2 : v ≤ 40) : manyOf v ≤ 7 ∧ ∀ i, i < 7 → (corT.getD (v - 1) []).getD i 0 = if i < manyOf v then ((nth (cenOf v) i : Nat) : Int) else -1 := by
  have h := cor_all
  rw [List.all_eq_true] at h
  have h := h (v - 1) (by simp; omega)
  rw [show v - 1 + 1 = v by omega, Bool.and_eq_true] at h
  refine ⟨by simpa using h.1, fun i hi => ?_⟩
  have h := h.2
  rw [List.all_eq_true] at h
  simpa using h i (by simpa using hi)
set_option maxRecDepth 100000 in
set_option maxHeartbeats 6400000 in
theorem embAlis (v p m : Nat) (cs : List Nat) (hm : m = manyOf v) (hcs : cs = cenOf v) (h1 : 1 ≤ v) (h2 : v ≤ 40) (hnv : n = dimOf v) (hp : p < B) (hc : w.cell? ⟨p, 0, none⟩ = some (.int .i64 v)) (h : MG w M B n (f2 n)) :
    Calls Try.prog 88 #[.pointer (some ⟨p, 0, none⟩), .pointer (some ⟨M, 0, none⟩)] w (Emb0 M B n (f3 (plTo cs m m 0).reverse (f2 n)) w) := by
  have hmid := mid_ver v h1 h2
  rw [← hm, ← hcs, ← hnv] at hmid
  obtain ⟨hm7, hcor⟩ := cor_at v h1 h2
  rw [← hm] at hm7
  rw [← hm, ← hcs] at hcor
  have hn : n ≤ 400 := by rw [hnv]; unfold dimOf; omega
  have HV := Lib.hid (verNum p v w hc)
  have H0 := Lib.hid h
  by_cases hv1 : v = 1
  · subst hv1
    have hm0 : m = 0 := by rw [hm]; rfl
    subst hm0
    clear hm hcs hnv hc h hcor hmid
    go_enter Try.func88, Try.ntmps88
    go_wp2_with fail
    refine (callsAs HV.out rfl).mono ?_
    rintro e w1 ⟨rfl, rfl⟩
    go_wp2_with fail
    refine bodyPost_ret (v := .tuple #[]) (by simp [results, Try.results88, go_sem]) rfl ⟨rfl, Lib.hid (H0.out.congr fun r c _ _ => by rw [f3_none]; intro p hp; simp [plTo, rowP] at hp), Lib.hid (Mod.refl _)⟩
  · have g2 : ((v : Int) < 2) = False := by simp; omega
    obtain ⟨u, hu⟩ : ∃ u, u = v - 1 := ⟨_, rfl⟩
    have eu : (v : Int) - 1 = (u : Int) := by omega
    have hu40 : u < 40 := by omega
    have hu40i : (u : Int) < 40 := by omega
    have hu0 : (0 : Int) ≤ (u : Int) := by omega
    rw [← hu] at hcor
    have HMID := Lib.hid hmid
    have HCOR := Lib.hid hcor
    have HLT := Lib.hid h.lt
    have HPB := Lib.hid hp
    clear hm hcs h1 h2 hnv hc h hmid hcor hu hv1 hp
    go_enter Try.func88, Try.ntmps88
    go_wp2_with fail
    refine HV.out.mono ?_
    rintro e w1 ⟨rfl, rfl⟩
    go_wp2_with fail
    refine HV.out.mono ?_
    rintro e w1 ⟨rfl, rfl⟩
    go_wp2_with fail
    refine (corTab w).mono ?_
    rintro e w1 ⟨b, rfl, HTAB, HBE⟩
    obtain ⟨pp, hpp⟩ := HTAB.out
    obtain ⟨hpb, t1, t2⟩ := hpp u hu40
    obtain ⟨P, hP⟩ : ∃ P, P = pp u := ⟨_, rfl⟩
    rw [← hP] at hpb t1 t2
    have HPM : Hid (¬ MatS B M P) := Lib.hid (fun hh => by have := H0.out.mlt; unfold MatS at hh; omega)
    have HT2 : Hid (∀ i, i < 7 → w1.cell? ⟨P, i, none⟩ = some (.int .i64 (if i < m then ((nth cs i : Nat) : Int) else -1))) := Lib.hid (fun i hi => by rw [t2 i hi, HCOR.out i hi])
    have HG1 := Lib.hid (H0.out.below HBE.out)
    have HB1 : Hid (Mod (MatS B M) w w1) := Lib.hid (Mod.of_below HBE.out)
    clear hpp hpb t2 hP HTAB HBE HCOR HV H0
    go_wp2_with fail
    clear t1
    go_loopw [22] (fun i wr => ∃ (k : Nat), k ≤ 7 ∧ i = .int .i64 k ∧ Hid (MG wr M B n (f3 (plTo cs m (min k m) 0).reverse (f2 n))) ∧ Hid (Mod (MatS B M) w wr) ∧ Hid (Mod (MatS B M) w1 wr)) (fun i _ => 7 - (intOf i).toNat)
    case atStart => exact ⟨0, by omega, rfl, Lib.hid (HG1.out.congr fun r c _ _ => by rw [f3_none]; intro p hp; simp [plTo, rowP] at hp), HB1, Lib.hid (Mod.refl _)⟩
    case round =>
      obtain ⟨k, hk, rfl, HG, HB, HM1⟩ := hrel
      obtain ⟨wi, hwi⟩ : ∃ wi, wi = wr := ⟨_, rfl⟩
      rw [← hwi] at HG HB HM1 ⊢
      clear hwi HG1 HB1
      by_cases hk7 : k < 7
      · have hk1 : (k : Int) < 7 := by omega
        have hk0 : (0 : Int) ≤ (k : Int) := by omega
        have cp := mod_cell HM1.out HPM.out (HT2.out k hk7)
        by_cases hkm : k < m
        · rw [if_pos hkm] at cp
          have hbd := HMID.out.bd hkm
          obtain ⟨a, ha⟩ : ∃ a, a = nth cs k := ⟨_, rfl⟩
          rw [← ha] at cp hbd
          have ha0 : (0 : Int) ≤ (a : Int) := by omega
          have HA := Lib.hid ha
          clear ha
          go_wp2_with fail
          clear cp
          go_loopw [30] (fun i wr => ∃ (j : Nat), j ≤ 7 ∧ i = .int .i64 j ∧ Hid (MG wr M B n (f3 (plTo cs m k (min j m)).reverse (f2 n))) ∧ Hid (Mod (MatS B M) w wr) ∧ Hid (Mod (MatS B M) w1 wr)) (fun i _ => 7 - (intOf i).toNat)
          case atStart => exact ⟨0, by omega, rfl, Lib.hid (by have := HG.out; rw [Nat.min_eq_left (show k ≤ m by omega)] at this; rw [Nat.zero_min]; exact this), HB, HM1⟩
          case round =>
            obtain ⟨j, hj, rfl, HG2, HB2, HM2⟩ := hrel
            obtain ⟨wj, hwj⟩ : ∃ wj, wj = wr := ⟨_, rfl⟩
            rw [← hwj] at HG2 HB2 HM2 ⊢
            clear hwj HG HB HM1
            by_cases hj7 : j < 7
            · have hj1 : (j : Int) < 7 := by omega
              have hj0 : (0 : Int) ≤ (j : Int) := by omega
              have cq := mod_cell HM2.out HPM.out (HT2.out j hj7)
              by_cases hjm : j < m
              · rw [if_pos hjm] at cq
                have hbd2 := HMID.out.bd hjm
                have HAB : Hid (MG wj M B n (f3 (plTo cs m k j).reverse (f2 n))) := Lib.hid (by have := HG2.out; rw [Nat.min_eq_left (show j ≤ m by omega)] at this; exact this)
                have HFR : Hid (cnr m k j = false → f3 (plTo cs m k j).reverse (f2 n) a (nth cs j) = -1) := Lib.hid (fun hc => by rw [HA.out]; exact HMID.out.free hkm hjm hc)
                have HHE : Hid (cnr m k j = true → 0 ≤ f3 (plTo cs m k j).reverse (f2 n) a (nth cs j)) := Lib.hid (fun hc => by rw [HA.out]; exact HMID.out.held hkm hjm hc _)
                obtain ⟨c, hc⟩ : ∃ c, c = nth cs j := ⟨_, rfl⟩
                rw [← hc] at cq hbd2 HFR HHE
                have hc0 : (0 : Int) ≤ (c : Int) := by omega
                obtain ⟨q, hq⟩ : ∃ q, q = f3 (plTo cs m k j).reverse (f2 n) := ⟨_, rfl⟩
                rw [← hq] at HAB HFR HHE
                have GE := Lib.hid (mGet c a (by omega) (by omega) hn HAB.out)
                have EM := Lib.hid (isEmp (q a c) wj)
                have HQ := Lib.hid hq
                have HC := Lib.hid hc
                clear hq hc
                cases hcn : cnr m k j with
                | true =>
                  have hz := HHE.out hcn
                  have hzb : (q a c == -1) = false := by simp; omega
                  rw [hzb] at EM
                  have HG3 : Hid (MG wj M B n (f3 (plTo cs m k (min (j + 1) m)).reverse (f2 n))) := Lib.hid (by
                    rw [Nat.min_eq_left (show j + 1 ≤ m by omega), plTo_succ, hcn]
                    simp only [if_true, List.append_nil]
                    rw [← HQ.out]; exact HAB.out)
                  clear hz hzb hcn HFR HHE HG2 HAB
                  go_wp2_with fail
                  refine GE.out.mono ?_
                  rintro e w4 ⟨rfl, rfl⟩
                  go_wp2_with fail
                  refine EM.out.mono ?_
                  rintro e w4 ⟨rfl, rfl⟩
                  go_wp2_with fail
                  go_roundw
                  case rel => exact ⟨j + 1, by omega, by go_num, HG3, HB2, HM2⟩
                  case measure => simp [intOf]; omega
                | false =>
                  have hz := HFR.out hcn
                  have hzb : (q a c == -1) = true := by rw [hz]; rfl
                  rw [hzb] at EM
                  obtain ⟨X, hX⟩ : ∃ X, X = c - 2 := ⟨_, rfl⟩
                  obtain ⟨Y, hY⟩ : ∃ Y, Y = a - 2 := ⟨_, rfl⟩
                  have eX : (c : Int) - 2 = (X : Int) := by omega
                  have eY : (a : Int) - 2 = (Y : Int) := by omega
                  have HE := Lib.hid (embAli X Y (by omega) (by omega) hn HAB.out)
                  have HST : Hid (setA X Y q = f3 (plTo cs m k (min (j + 1) m)).reverse (f2 n)) := Lib.hid (by
                    rw [Nat.min_eq_left (show j + 1 ≤ m by omega), plTo_succ, hcn]
                    simp only [Bool.false_eq_true, if_false, List.reverse_append, List.reverse_cons, List.reverse_nil, List.nil_append, List.singleton_append]
                    rw [← HC.out, ← HA.out, f3_cons _ _ _ _ (by omega) (by omega), ← HQ.out, hX, hY])
                  have hX4 : X ≤ 400 := by omega
                  have hY4 : Y ≤ 400 := by omega
                  clear hz hzb hcn HFR HHE HG2 HAB hX hY
                  go_wp2_with fail
                  refine GE.out.mono ?_
                  rintro e w4 ⟨rfl, rfl⟩
                  go_wp2_with fail
                  refine EM.out.mono ?_
                  rintro e w4 ⟨rfl, rfl⟩
                  go_wp2_with fail
                  refine HE.out.mono ?_
                  rintro e w4 ⟨rfl, HG4, HM4⟩
                  have HG5 : Hid (MG w4 M B n (f3 (plTo cs m k (min (j + 1) m)).reverse (f2 n))) := Lib.hid (by rw [← HST.out]; exact HG4.out)
                  have HB5 := Lib.hid (HB2.out.trans HM4.out)
                  have HM5 := Lib.hid (HM2.out.trans HM4.out)
                  clear HG4 HM4
                  go_wp2_with fail
                  go_roundw
                  case rel => exact ⟨j + 1, by omega, by go_num, HG5, HB5, HM5⟩
                  case measure => simp [intOf]; omega
              · rw [if_neg hjm] at cq
                have HG3 : Hid (MG wj M B n (f3 (plTo cs m k (min (j + 1) m)).reverse (f2 n))) := Lib.hid (by have := HG2.out; rw [Nat.min_eq_right (show m ≤ j by omega)] at this; rw [Nat.min_eq_right (show m ≤ j + 1 by omega)]; exact this)
                clear HG2
                go_wp2_with fail
                go_roundw
                case rel => exact ⟨j + 1, by omega, by go_num, HG3, HB2, HM2⟩
                case measure => simp [intOf]; omega
            · obtain rfl : j = 7 := by omega
              have HG3 : Hid (MG wj M B n (f3 (plTo cs m (min (k + 1) m) 0).reverse (f2 n))) := Lib.hid (by have := HG2.out; rw [Nat.min_eq_right hm7] at this; rw [Nat.min_eq_left (show k + 1 ≤ m by omega), plTo_row]; exact this)
              clear HG2
              go_wp2_with fail
              go_roundw
              case rel => exact ⟨k + 1, by omega, by go_num, HG3, HB2, HM2⟩
              case measure => simp [intOf]; omega
        · rw [if_neg hkm] at cp
          have HG3 : Hid (MG wi M B n (f3 (plTo cs m (min (k + 1) m) 0).reverse (f2 n))) := Lib.hid (by have := HG.out; rw [Nat.min_eq_right (show m ≤ k by omega)] at this; rw [Nat.min_eq_right (show m ≤ k + 1 by omega)]; exact this)
          clear HG
          go_wp2_with fail
          go_roundw
          case rel => exact ⟨k + 1, by omega, by go_num, HG3, HB, HM1⟩
          case measure => simp [intOf]; omega
      · obtain rfl : k = 7 := by omega
        go_wp2_with fail
        go_end0
        exact ⟨rfl, Lib.hid (by have := HG.out; rw [Nat.min_eq_right hm7] at this; exact this), HB⟩
set_option maxRecDepth 100000 in
set_option maxHeartbeats 3200000 in
theorem embBasic (v p m : Nat) (cs : List Nat) (hm : m = manyOf v) (hcs : cs = cenOf v) (h1 : 1 ≤ v) (h2 : v ≤ 40) (hnv : n = dimOf v) (hp : p < B) (hc : w.cell? ⟨p, 0, none⟩ = some (.int .i64 v)) (h : MG w M B n f0) :
    Calls Try.prog 68 #[.pointer (some ⟨p, 0, none⟩), .pointer (some ⟨M, 0, none⟩)] w (Emb1 M B n (f4 n (n - 8) (f3 (plTo cs m m 0).reverse (f2 n))) w) := by
  have hn21 : 21 ≤ n := by rw [hnv]; unfold dimOf; omega
  have hn : n ≤ 400 := by rw [hnv]; unfold dimOf; omega
  have hne := neqW
  have C1 := Lib.hid (embFins hn21 hn h)
  have HC := Lib.hid hc
  have HX := Lib.hid (And.intro hm (And.intro hcs (And.intro h1 (And.intro h2 hnv))))
  have HP := Lib.hid hp
  clear hc h hm hcs h1 h2 hnv hp
  go_enter Try.func68, Try.ntmps68
  go_wp2_with fail
  refine C1.out.mono ?_
  rintro e w1 ⟨rfl, H1, M1⟩
  have C2 := Lib.hid (embDark hn21 hn H1.out)
  go_wp2_with fail
  refine C2.out.mono ?_
  rintro e w2 ⟨rfl, H2, M2'⟩
  have M2 := Lib.hid (M1.out.trans M2'.out)
  have C3 := Lib.hid (embAlis v p m cs HX.out.1 HX.out.2.1 HX.out.2.2.1 HX.out.2.2.2.1 HX.out.2.2.2.2 HP.out (mod_cell M2.out (fun hh => by have := HP.out; unfold MatS at hh; omega) HC.out) H2.out)
  go_wp2_with fail
  refine C3.out.mono ?_
  rintro e w3 ⟨rfl, H3, M3'⟩
  have M3 := Lib.hid (M2.out.trans M3'.out)
  have C4 := Lib.hid (embTime hn21 hn H3.out)
  go_wp2_with fail
  refine C4.out.mono ?_
  rintro e w4 ⟨rfl, H4, M4'⟩
  have M4 := Lib.hid (M3.out.trans M4'.out)
  go_wp2_with fail
  go_ret
  exact ⟨rfl, H4, M4⟩
end Go.Proofs.Ythkiajighmhdoaa
