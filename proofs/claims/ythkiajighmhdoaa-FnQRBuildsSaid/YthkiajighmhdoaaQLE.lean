/-
  The reference's patterns: what is given, what stands there, walked. No condition beyond the bounds that each theorem states.
-/
import Derived.Test.YthkiajighmhdoaaQLD
namespace Go.Proofs.Ythkiajighmhdoaa
open Go.RowKit Go.Qz Go.Qz.QK Go.Qz.QW
open Go.Qz.QB (fb vb rrest vb_lt fb_lt)
set_option linter.unusedVariables false

variable {w w' : World} {n : Nat}
set_option maxRecDepth 100000 in
set_option maxHeartbeats 6400000 in
theorem sGiven (v m : Nat) (cs : List Nat) (A : Option Addr) (ca : Nat) (r c : Nat) (h1 : 1 ≤ v) (h2 : v ≤ 40) (hm : m = manyOf v) (hcs : cs = cenOf v) (hnv : n = dimOf v) (hm7 : m ≤ 7) (hr : r < n) (hc : c < n) (w : World) (h : Rd w A m (fun j => .int .i64 (nth cs j : Nat))) :
    Calls Try.prog 76 #[.int .i64 v, .slice A m ca, .int .i64 r, .int .i64 c] w fun e w' => e = .returned (.bool (gvB v r c)) ∧ w = w' := by
  have hmid := mid_ver v h1 h2
  rw [← hm, ← hcs, ← hnv] at hmid
  have hn : n ≤ 400 := by rw [hnv]; unfold dimOf; omega
  have hn21 : 21 ≤ n := hmid.n21
  have HAL := Lib.hid (sAlign m cs A ca r c hmid hm7 hn hr hc w h)
  have HDI := Lib.hid (dimension v (by omega) w)
  rw [← hnv] at HDI
  have HG : Hid (gvB v r c = decide (giv v n (al cs m r c) r c)) := Lib.hid (by unfold gvB; rw [hm, hcs, hnv])
  obtain ⟨a, ha⟩ : ∃ a, a = al cs m r c := ⟨_, rfl⟩
  rw [← ha] at HAL HG
  obtain ⟨bb, hbb⟩ : ∃ bb, bb = gvB v r c := ⟨_, rfl⟩
  rw [← hbb] at HG ⊢
  clear hmid hm hcs hnv h ha hbb
  go_enter Try.func76, Try.ntmps76
  go_wp2_with fail
  refine HDI.out.mono ?_
  rintro e w1 ⟨rfl, rfl⟩
  go_wp2_with fail
  all_goals first | (go_ret; refine ⟨?_, rfl⟩; rw [HG.out]; have hgg : giv v n a r c := (by unfold giv; (try simp only [beq_iff_eq, beq_eq_false_iff_ne, ne_eq] at *) <;> omega); rw [decide_eq_true hgg]; rfl) | skip
  all_goals
    refine HAL.out.mono ?_
    rintro e w1 ⟨rfl, rfl⟩
    go_wp2_with fail
    all_goals go_ret
    all_goals
      refine ⟨?_, rfl⟩
      rw [HG.out]
      have hgg : giv v n a r c ↔ 0 ≤ a := by
        unfold giv; (try simp only [beq_eq_false_iff_ne, ne_eq] at *) <;> omega
      have : decide (giv v n a r c) = decide (0 ≤ a) := by rw [Bool.eq_iff_iff, decide_eq_true_eq, decide_eq_true_eq]; exact hgg
      rw [this]; first | rfl | simp_all
theorem pat1 (n x y : Nat) (a : Int) (r c : Nat) (h1 : 0 ≤ qfa n r c) : pat n x y a r c = x.testBit (qfa n r c).toNat := by unfold pat; rw [if_pos h1]
theorem pat2 (n x y : Nat) (a : Int) (r c : Nat) (h1 : ¬ 0 ≤ qfa n r c) (h2 : r = n - 8 ∧ c = 8) : pat n x y a r c = true := by unfold pat; rw [if_neg h1, if_pos h2]
theorem pat3 (n x y : Nat) (a : Int) (r c : Nat) (h1 : ¬ 0 ≤ qfa n r c) (h2 : ¬ (r = n - 8 ∧ c = 8)) (h3 : fin3 n r c ≤ 4) : pat n x y a r c = decide (fin3 n r c ≠ 2 ∧ fin3 n r c ≠ 4) := by unfold pat; rw [if_neg h1, if_neg h2, if_pos h3]
theorem pat4 (n x y : Nat) (a : Int) (r c : Nat) (h1 : ¬ 0 ≤ qfa n r c) (h2 : ¬ (r = n - 8 ∧ c = 8)) (h3 : ¬ fin3 n r c ≤ 4) (h4 : 0 ≤ a) : pat n x y a r c = decide (a ≠ 1) := by unfold pat; rw [if_neg h1, if_neg h2, if_neg h3, if_pos h4]
theorem pat5 (n x y : Nat) (a : Int) (r c : Nat) (h1 : ¬ 0 ≤ qfa n r c) (h2 : ¬ (r = n - 8 ∧ c = 8)) (h3 : ¬ fin3 n r c ≤ 4) (h4 : ¬ 0 ≤ a) (h5 : r = 6 ∨ c = 6) : pat n x y a r c = decide ((r + c) % 2 = 0) := by unfold pat; rw [if_neg h1, if_neg h2, if_neg h3, if_neg h4, if_pos h5]
theorem pat6 (n x y : Nat) (a : Int) (r c : Nat) (h1 : ¬ 0 ≤ qfa n r c) (h2 : ¬ (r = n - 8 ∧ c = 8)) (h3 : ¬ fin3 n r c ≤ 4) (h4 : ¬ 0 ≤ a) (h5 : ¬ (r = 6 ∨ c = 6)) : pat n x y a r c = if r < c then y.testBit (r * 3 + c + 11 - n) else y.testBit (c * 3 + r + 11 - n) := by unfold pat; rw [if_neg h1, if_neg h2, if_neg h3, if_neg h4, if_neg h5]
theorem int_eq1 (z : Nat) : ((z : Int) == 1) = decide (z = 1) := by rw [Bool.eq_iff_iff]; simp; omega
set_option maxRecDepth 100000 in
set_option maxHeartbeats 12800000 in
theorem sPattern (v m x : Nat) (cs : List Nat) (A : Option Addr) (ca : Nat) (r c : Nat) (h1 : 1 ≤ v) (h2 : v ≤ 40) (hm : m = manyOf v) (hcs : cs = cenOf v) (hnv : n = dimOf v) (hm7 : m ≤ 7) (hr : r < n) (hc : c < n) (hx : x < 32768) (hg : gvB v r c = true) (w : World) (h : Rd w A m (fun j => .int .i64 (nth cs j : Nat))) :
    Calls Try.prog 77 #[.int .i64 v, .int .i64 x, .slice A m ca, .int .i64 r, .int .i64 c] w fun e w' => e = .returned (.bool (pat n x (vb v) (al cs m r c) r c)) ∧ w = w' := by
  have hmid := mid_ver v h1 h2
  rw [← hm, ← hcs, ← hnv] at hmid
  have hn : n ≤ 400 := by rw [hnv]; unfold dimOf; omega
  have hn21 : 21 ≤ n := hmid.n21
  have HAL := Lib.hid (sAlign m cs A ca r c hmid hm7 hn hr hc w h)
  have HDI := Lib.hid (dimension v (by omega) w)
  rw [← hnv] at HDI
  have HFA := Lib.hid (sFormat r c hn21 hn hr hc w)
  have HG : Hid (giv v n (al cs m r c) r c) := Lib.hid (by
    unfold gvB at hg
    rw [decide_eq_true_eq, ← hm, ← hcs, ← hnv] at hg; exact hg)
  have HZ := Lib.hid (qfa_zone n r c hn21 hr hc)
  have HFZ := Lib.hid (fin_zone n r c hn21 hr hc)
  have h45 : Hid (7 ≤ v ↔ 45 ≤ n) := Lib.hid (by rw [hnv]; unfold dimOf; omega)
  have HVB := Lib.hid (fun hlt => qrVersionBits v (by omega) w hlt)
  have HVL : Hid (7 ≤ v → vb v < 262144 ∧ rrest 7973 13 6 (v * 4096) < 4096) := Lib.hid (fun h7 => by
    have := vb_lt ⟨v - 7, by omega⟩
    simp only [show v - 7 + 7 = v by omega] at this
    exact this)
  obtain ⟨a, ha⟩ : ∃ a, a = al cs m r c := ⟨_, rfl⟩
  rw [← ha] at HAL HG ⊢
  obtain ⟨q, hq⟩ : ∃ q, q = qfa n r c := ⟨_, rfl⟩
  rw [← hq] at HFA HZ
  have HQ := Lib.hid hq
  obtain ⟨f, hf⟩ : ∃ f, f = fin3 n r c := ⟨_, rfl⟩
  rw [← hf] at HFZ
  have HF := Lib.hid hf
  obtain ⟨y, hy⟩ : ∃ y, y = vb v := ⟨_, rfl⟩
  rw [← hy] at HVB HVL ⊢
  obtain ⟨A8, hA8⟩ : ∃ A, A = n - 8 := ⟨_, rfl⟩
  have e8 : (n : Int) - 8 = (A8 : Int) := by omega
  obtain ⟨A4, hA4⟩ : ∃ A, A = n - 4 := ⟨_, rfl⟩
  have e4 : (n : Int) - 4 = (A4 : Int) := by omega
  have HA8 := Lib.hid hA8
  have HA4 := Lib.hid hA4
  have hAb : A8 ≤ 400 ∧ A4 ≤ 400 := by omega
  clear hmid hm hcs hnv h hg ha hq hf hy hA8 hA4
  go_enter Try.func77, Try.ntmps77
  go_wp2_with fail
  refine HDI.out.mono ?_
  rintro e w1 ⟨rfl, rfl⟩
  go_wp2_with fail
  refine HFA.out.mono ?_
  rintro e w1 ⟨rfl, rfl⟩
  by_cases hq0 : 0 ≤ q
  · obtain ⟨qn, rfl⟩ : ∃ qn : Nat, q = qn := ⟨q.toNat, by omega⟩
    have hq15 : qn < 15 := by have := HZ.out.2; omega
    obtain ⟨y1, hy1⟩ : ∃ y1, y1 = x / 2 ^ qn := ⟨_, rfl⟩
    have hyl : y1 < 65536 := by rw [hy1]; exact Nat.lt_of_le_of_lt (Nat.div_le_self _ _) (by omega)
    have hyi : (x : Int) / 2 ^ qn = (y1 : Int) := by rw [hy1]; simp
    obtain ⟨z, hz⟩ : ∃ z, z = y1 % 2 := ⟨_, rfl⟩
    have hand := i64_and1' y1 (by omega)
    rw [← hz] at hand
    have HP : Hid (pat n x y a r c = decide (z = 1)) := Lib.hid (by
      rw [pat1 _ _ _ _ _ _ (by rw [← HQ.out]; omega), ← HQ.out, Int.toNat_natCast, Nat.testBit_eq_decide_div_mod_eq, ← hy1, ← hz])
    have HI := Lib.hid (int_eq1 z)
    clear hy1 hz
    go_wp2_with fail
    go_ret
    exact ⟨by rw [HP.out, ← HI.out]; rfl, rfl⟩
  · have hq0' : (0 ≤ q) = False := by simp; omega
    have HQN : Hid (¬ 0 ≤ qfa n r c) := Lib.hid (by rw [← HQ.out]; exact hq0)
    have hqb : -1 ≤ q := by rw [HQ.out]; unfold qfa; (repeat' split) <;> omega
    obtain ⟨d5, hd5⟩ : ∃ d5, d5 = decide (r = A8 ∧ c = 8) := ⟨_, rfl⟩
    have HD5 := Lib.hid hd5
    obtain ⟨p1, hp1⟩ : ∃ p : Bool, ((r : Int) == (A8 : Int)) = p := ⟨_, rfl⟩
    obtain ⟨p2, hp2⟩ : ∃ p : Bool, ((c : Int) == 8) = p := ⟨_, rfl⟩
    have HPQ : Hid (d5 = (p1 && p2)) := Lib.hid (by
      rw [hd5, ← hp1, ← hp2, Bool.eq_iff_iff]
      simp only [decide_eq_true_eq, Bool.and_eq_true, beq_iff_eq]
      omega)
    clear hq0 hd5
    go_upto_region 5 with (fail)
    go_cut [35] from 28 to 35 (fun u wx => w = wx ∧ u = .bool d5)
    case first =>
      go_wp2_with fail
      all_goals go_meet
      all_goals
        refine ⟨rfl, ?_⟩
        rw [HPQ.out]
        clear hp1 hp2
        simp_all
    case rest =>
      obtain ⟨rfl, rfl⟩ := hcut
      clear hp1 hp2
      cases d5 with
      | true =>
        have HP : Hid (pat n x y a r c = true) := Lib.hid (pat2 _ _ _ _ _ _ (by have := HQN.out; omega) (by have := HD5.out; have h8 := HA8.out; rw [eq_comm, decide_eq_true_eq] at this; omega))
        go_wp2_with fail
        go_ret
        exact ⟨by rw [HP.out]; rfl, rfl⟩
      | false =>
        have HN2 : Hid (¬ (r = n - 8 ∧ c = 8)) := Lib.hid (by have := HD5.out; have h8 := HA8.out; rw [eq_comm, decide_eq_false_iff_not] at this; omega)
        have F1 := Lib.hid (sFar r c 3 3 (by omega) (by omega) (by omega) (by omega) w)
        have F2 := Lib.hid (sFar r c 3 A4 (by omega) (by omega) (by omega) (by omega) w)
        have F3 := Lib.hid (sFar r c A4 3 (by omega) (by omega) (by omega) (by omega) w)
        obtain ⟨f1, hf1⟩ : ∃ f1, f1 = far r c 3 3 := ⟨_, rfl⟩
        obtain ⟨f2, hf2⟩ : ∃ f1, f1 = far r c 3 A4 := ⟨_, rfl⟩
        obtain ⟨f3', hf3⟩ : ∃ f1, f1 = far r c A4 3 := ⟨_, rfl⟩
        rw [← hf1] at F1
        rw [← hf2] at F2
        rw [← hf3] at F3
        have HMN : Hid (f = min (min f1 f2) f3') := Lib.hid (by rw [HF.out, hf1, hf2, hf3, HA4.out]; rfl)
        have hfb : f1 ≤ 400 ∧ f2 ≤ 400 ∧ f3' ≤ 400 := by
          rw [hf1, hf2, hf3]
          refine ⟨(far_le _ _ _ _ _).2 ?_, (far_le _ _ _ _ _).2 ?_, (far_le _ _ _ _ _).2 ?_⟩ <;> omega
        have hf400 : f ≤ 400 := by have := HMN.out; omega
        clear hf1 hf2 hf3
        go_upto_region 7 with (fail)
        go_cut [13] from 36 to 49 (fun u wx => w = wx ∧ u = .int .i64 (f : Nat))
        case first =>
          go_wp2_with fail
          refine (callsAs F1.out rfl).mono ?_
          rintro e w1 ⟨rfl, rfl⟩
          go_wp2_with fail
          refine (callsAs F2.out rfl).mono ?_
          rintro e w1 ⟨rfl, rfl⟩
          go_wp2_with fail
          refine (callsAs F3.out rfl).mono ?_
          rintro e w1 ⟨rfl, rfl⟩
          go_wp2_with fail
          all_goals go_meet
          all_goals
            refine ⟨rfl, ?_⟩
            have := HMN.out
            congr 1
            omega
        case rest =>
          obtain ⟨rfl, rfl⟩ := hcut
          by_cases hf4 : f ≤ 4
          · have g4 : (f : Int) ≤ 4 := by omega
            have HP : Hid (pat n x y a r c = ((f : Int) != 2 && (f : Int) != 4)) := Lib.hid (by
              rw [pat3 _ _ _ _ _ _ (by have := HQN.out; omega) (by have := HN2.out; omega) (by rw [← HF.out]; exact hf4), ← HF.out, Bool.eq_iff_iff]
              simp only [decide_eq_true_eq, Bool.and_eq_true, bne_iff_ne, ne_eq]
              omega)
            go_wp2_with fail
            all_goals go_ret
            all_goals
              refine ⟨?_, rfl⟩
              rw [HP.out]
              first | rfl | simp_all
          · have g4 : ((f : Int) ≤ 4) = False := by simp; omega
            have HN3 : Hid (¬ fin3 n r c ≤ 4) := Lib.hid (by rw [← HF.out]; exact hf4)
            clear hf4
            go_wp2_with fail
            refine HAL.out.mono ?_
            rintro e w1 ⟨rfl, rfl⟩
            by_cases ha0 : 0 ≤ a
            · have HP : Hid (pat n x y a r c = (a != 1)) := Lib.hid (by
                rw [pat4 _ _ _ _ _ _ (by have := HQN.out; omega) (by have := HN2.out; omega) (by have := HN3.out; omega) ha0, Bool.eq_iff_iff]; simp)
              go_wp2_with fail
              all_goals go_ret
              all_goals exact ⟨by rw [HP.out]; first | rfl | simp_all, rfl⟩
            · have ha0' : (0 ≤ a) = False := by simp; omega
              have HN4 := Lib.hid ha0
              obtain ⟨d6, hd6⟩ : ∃ d6, d6 = decide (r = 6 ∨ c = 6) := ⟨_, rfl⟩
              have HD6 := Lib.hid hd6
              obtain ⟨p3, hp3⟩ : ∃ p : Bool, ((r : Int) == 6) = p := ⟨_, rfl⟩
              obtain ⟨p4, hp4⟩ : ∃ p : Bool, ((c : Int) == 6) = p := ⟨_, rfl⟩
              have HPR : Hid (d6 = (p3 || p4)) := Lib.hid (by
                rw [hd6, ← hp3, ← hp4, Bool.eq_iff_iff]
                simp only [decide_eq_true_eq, Bool.or_eq_true, beq_iff_eq]
                omega)
              clear ha0 hd6
              go_upto_region 13 with (fail)
              go_cut [71] from 66 to 71 (fun u wx => w = wx ∧ u = .bool d6)
              case first =>
                go_wp2_with fail
                all_goals go_meet
                all_goals
                  refine ⟨rfl, ?_⟩
                  rw [HPR.out]
                  clear hp3 hp4
                  simp_all
              case rest =>
                obtain ⟨rfl, rfl⟩ := hcut
                clear hp3 hp4
                cases d6 with
                | true =>
                  have HN5 : Hid (r = 6 ∨ c = 6) := Lib.hid (by have := HD6.out; rw [eq_comm, decide_eq_true_eq] at this; exact this)
                  obtain ⟨t, ht⟩ : ∃ t, t = r + c := ⟨_, rfl⟩
                  have et : (r : Int) + (c : Int) = (t : Int) := by omega
                  obtain ⟨u, hu⟩ : ∃ u, u = t % 2 := ⟨_, rfl⟩
                  have eu : (t : Int).tmod 2 = (u : Int) := tm t 2 u hu
                  have eu2 : (t : Int) % 2 = (u : Int) := by omega
                  have htb : t ≤ 800 ∧ u < 2 := by omega
                  have HP : Hid (pat n x y a r c = ((u : Int) == 0)) := Lib.hid (by
                    rw [pat5 _ _ _ _ _ _ (by have := HQN.out; omega) (by have := HN2.out; omega) (by have := HN3.out; omega) (by have := HN4.out; omega) (by have := HN5.out; omega), ← ht, ← hu, Bool.eq_iff_iff]; simp)
                  clear ht hu
                  go_wp2_with fail
                  go_ret
                  exact ⟨by rw [HP.out]; rfl, rfl⟩
                | false =>
                  have HN5 : Hid (¬ (r = 6 ∨ c = 6)) := Lib.hid (by have := HD6.out; rw [eq_comm, decide_eq_false_iff_not] at this; exact this)
                  have HVZ : Hid (7 ≤ v ∧ (r ≤ 5 ∧ n - 11 ≤ c ∨ c ≤ 5 ∧ n - 11 ≤ r)) := Lib.hid (by
                    have hg := HG.out
                    unfold giv at hg
                    have k1 : ¬ (r = n - 8 ∧ c = 8) := by have := HN2.out; omega
                    have k2 := HFZ.out
                    have k3 : ¬ fin3 n r c ≤ 4 := by have := HN3.out; omega
                    rw [← HF.out, k2] at k3
                    have k4 := HZ.out.1
                    have k5 : ¬ 0 ≤ q := by rw [HQ.out]; have := HQN.out; omega
                    have k6 := mt k4.2 k5
                    have k7 := HN4.out
                    have k8 := HN5.out
                    clear k2 k4 k5
                    omega)
                  have hvl := HVL.out HVZ.out.1
                  have HVC := Lib.hid (HVB.out hvl.2)
                  have hy18 : y < 262144 := hvl.1
                  have hn45 : 45 ≤ n := h45.out.1 HVZ.out.1
                  by_cases hrc : r < c
                  · have hrci : (r : Int) < (c : Int) := by omega
                    have hz5 : r ≤ 5 ∧ n - 11 ≤ c := by have := HVZ.out.2; omega
                    obtain ⟨r3, hr3⟩ : ∃ r3, r3 = r * 3 := ⟨_, rfl⟩
                    obtain ⟨s3, hs3⟩ : ∃ s3, s3 = r3 + c := ⟨_, rfl⟩
                    obtain ⟨s4, hs4⟩ : ∃ s4 : Int, s4 = (s3 : Int) - n := ⟨_, rfl⟩
                    obtain ⟨qn, hqn⟩ : ∃ qn, qn = r * 3 + c + 11 - n := ⟨_, rfl⟩
                    have e1 : (r : Int) * 3 = (r3 : Int) := by omega
                    have e2 : (r3 : Int) + (c : Int) = (s3 : Int) := by omega
                    have e3 : (s3 : Int) - (n : Int) = s4 := hs4.symm
                    have e5 : s4 + 11 = (qn : Int) := by omega
                    have hbb : r3 ≤ 1200 ∧ s3 ≤ 1600 ∧ -400 ≤ s4 ∧ s4 ≤ 1600 ∧ qn ≤ 40 := by omega
                    have hq18 : qn ≤ 30 := by omega
                    obtain ⟨y1, hy1⟩ : ∃ y1, y1 = y / 2 ^ qn := ⟨_, rfl⟩
                    have hyl : y1 < 262144 := by rw [hy1]; exact Nat.lt_of_le_of_lt (Nat.div_le_self _ _) hy18
                    have hyi : (y : Int) / 2 ^ qn = (y1 : Int) := by rw [hy1]; simp
                    obtain ⟨z, hz⟩ : ∃ z, z = y1 % 2 := ⟨_, rfl⟩
                    have hand := i64_and1' y1 (by omega)
                    rw [← hz] at hand
                    have HP : Hid (pat n x y a r c = decide (z = 1)) := Lib.hid (by
                      rw [pat6 _ _ _ _ _ _ (by have := HQN.out; omega) (by have := HN2.out; omega) (by have := HN3.out; omega) (by have := HN4.out; omega) (by have := HN5.out; omega), if_pos hrc, ← hqn, Nat.testBit_eq_decide_div_mod_eq, ← hy1, ← hz])
                    have HI := Lib.hid (int_eq1 z)
                    clear hy1 hz hqn hs4 hs3 hr3 hvl hz5 hrc
                    go_wp2_with fail
                    refine HVC.out.mono ?_
                    rintro e w1 ⟨rfl, rfl⟩
                    go_wp2_with fail
                    go_ret
                    exact ⟨by rw [HP.out, ← HI.out]; rfl, rfl⟩
                  · have hrci : ((r : Int) < (c : Int)) = False := by simp; omega
                    have hz5 : c ≤ 5 ∧ n - 11 ≤ r := by have := HVZ.out.2; omega
                    obtain ⟨r3, hr3⟩ : ∃ r3, r3 = c * 3 := ⟨_, rfl⟩
                    obtain ⟨s3, hs3⟩ : ∃ s3, s3 = r3 + r := ⟨_, rfl⟩
                    obtain ⟨s4, hs4⟩ : ∃ s4 : Int, s4 = (s3 : Int) - n := ⟨_, rfl⟩
                    obtain ⟨qn, hqn⟩ : ∃ qn, qn = c * 3 + r + 11 - n := ⟨_, rfl⟩
                    have e1 : (c : Int) * 3 = (r3 : Int) := by omega
                    have e2 : (r3 : Int) + (r : Int) = (s3 : Int) := by omega
                    have e3 : (s3 : Int) - (n : Int) = s4 := hs4.symm
                    have e5 : s4 + 11 = (qn : Int) := by omega
                    have hbb : r3 ≤ 1200 ∧ s3 ≤ 1600 ∧ -400 ≤ s4 ∧ s4 ≤ 1600 ∧ qn ≤ 40 := by omega
                    have hq18 : qn ≤ 30 := by omega
                    obtain ⟨y1, hy1⟩ : ∃ y1, y1 = y / 2 ^ qn := ⟨_, rfl⟩
                    have hyl : y1 < 262144 := by rw [hy1]; exact Nat.lt_of_le_of_lt (Nat.div_le_self _ _) hy18
                    have hyi : (y : Int) / 2 ^ qn = (y1 : Int) := by rw [hy1]; simp
                    obtain ⟨z, hz⟩ : ∃ z, z = y1 % 2 := ⟨_, rfl⟩
                    have hand := i64_and1' y1 (by omega)
                    rw [← hz] at hand
                    have HP : Hid (pat n x y a r c = decide (z = 1)) := Lib.hid (by
                      rw [pat6 _ _ _ _ _ _ (by have := HQN.out; omega) (by have := HN2.out; omega) (by have := HN3.out; omega) (by have := HN4.out; omega) (by have := HN5.out; omega), if_neg hrc, ← hqn, Nat.testBit_eq_decide_div_mod_eq, ← hy1, ← hz])
                    have HI := Lib.hid (int_eq1 z)
                    clear hy1 hz hqn hs4 hs3 hr3 hvl hz5 hrc
                    go_wp2_with fail
                    refine HVC.out.mono ?_
                    rintro e w1 ⟨rfl, rfl⟩
                    go_wp2_with fail
                    go_ret
                    exact ⟨by rw [HP.out, ← HI.out]; rfl, rfl⟩
end Go.Proofs.Ythkiajighmhdoaa
