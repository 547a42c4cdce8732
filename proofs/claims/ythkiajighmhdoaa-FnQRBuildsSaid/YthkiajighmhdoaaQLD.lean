/-
  The reference's patterns: distances, alignment, the format's places, what is given, walked. No condition beyond the bounds that each theorem states.
-/
import Derived.Test.YthkiajighmhdoaaQKX
import Derived.Test.YthkiajighmhdoaaQKO
import Derived.Test.YthkiajighmhdoaaQKC
namespace Go.Proofs.Ythkiajighmhdoaa
open Go.RowKit Go.Qz Go.Qz.QK Go.Qz.QW
open Go.Qz.QB (fb vb rrest)
set_option linter.unusedVariables false

variable {w w' : World} {n : Nat}
set_option maxRecDepth 100000 in
set_option maxHeartbeats 1600000 in
theorem sFar (r c a b : Nat) (hr : r ≤ 400) (hc : c ≤ 400) (ha : a ≤ 400) (hb : b ≤ 400) (w : World) :
    Calls Try.prog 108 #[.int .i64 r, .int .i64 c, .int .i64 a, .int .i64 b] w fun e w' => e = .returned (.int .i64 (far r c a b : Nat)) ∧ w = w' := by
  obtain ⟨u1, h1⟩ : ∃ u : Int, u = (r : Int) - a := ⟨_, rfl⟩
  obtain ⟨u2, h2⟩ : ∃ u : Int, u = (a : Int) - r := ⟨_, rfl⟩
  obtain ⟨u3, h3⟩ : ∃ u : Int, u = (c : Int) - b := ⟨_, rfl⟩
  obtain ⟨u4, h4⟩ : ∃ u : Int, u = (b : Int) - c := ⟨_, rfl⟩
  have HF : Hid (max (max u1 u2) (max u3 u4) = (far r c a b : Nat)) := Lib.hid (by unfold far; omega)
  have b1 : -400 ≤ u1 ∧ u1 ≤ 400 := by omega
  have b2 : -400 ≤ u2 ∧ u2 ≤ 400 := by omega
  have b3 : -400 ≤ u3 ∧ u3 ≤ 400 := by omega
  have b4 : -400 ≤ u4 ∧ u4 ≤ 400 := by omega
  have e1 : (r : Int) - a = u1 := h1.symm
  have e2 : (a : Int) - r = u2 := h2.symm
  have e3 : (c : Int) - b = u3 := h3.symm
  have e4 : (b : Int) - c = u4 := h4.symm
  clear h1 h2 h3 h4
  go_enter Try.func108, Try.ntmps108
  go_wp2_with fail
  all_goals go_ret
  all_goals
    refine ⟨?_, rfl⟩
    have := HF.out
    simp; omega
set_option maxRecDepth 100000 in
set_option maxHeartbeats 6400000 in
theorem sFormat (r c : Nat) (hn21 : 21 ≤ n) (hn : n ≤ 400) (hr : r < n) (hc : c < n) (w : World) :
    Calls Try.prog 107 #[.int .i64 n, .int .i64 r, .int .i64 c] w fun e w' => e = .returned (.int .i64 (qfa n r c)) ∧ w = w' := by
  obtain ⟨q, hq⟩ : ∃ q, q = qfa n r c := ⟨_, rfl⟩
  have HQ := Lib.hid hq
  rw [← hq]
  clear hq
  go_enter Try.func107, Try.ntmps107
  go_wp2_with fail
  all_goals go_ret
  all_goals
    refine ⟨?_, rfl⟩
    rw [HQ.out]
    unfold qfa
    simp
    repeat' split
    all_goals (try simp only [beq_iff_eq, beq_eq_false_iff_ne, ne_eq] at *) <;> omega
set_option maxRecDepth 100000 in
set_option maxHeartbeats 6400000 in
theorem sAlign (m : Nat) (cs : List Nat) (A : Option Addr) (ca : Nat) (r c : Nat) (hmid : Mid n m cs) (hm7 : m ≤ 7) (hn : n ≤ 400) (hr : r < n) (hc : c < n) (w : World) (h : Rd w A m (fun j => .int .i64 (nth cs j : Nat))) :
    Calls Try.prog 106 #[.slice A m ca, .int .i64 r, .int .i64 c] w fun e w' => e = .returned (.int .i64 (al cs m r c)) ∧ w = w' := by
  have HMID := Lib.hid hmid
  have H := Lib.hid h
  obtain ⟨lst, hlst⟩ : ∃ lst : Int, lst = (m : Int) - 1 := ⟨_, rfl⟩
  have elst : (m : Int) - 1 = lst := hlst.symm
  have blst : -1 ≤ lst ∧ lst ≤ 7 := by omega
  have HLST := Lib.hid hlst
  clear hmid h hlst
  go_enter Try.func106, Try.ntmps106
  go_wp2_with fail
  go_loopw [18] (fun i wr => ∃ ii : Nat, ii ≤ m ∧ i = .int .i64 ii ∧ Hid (∀ i k, i < ii → k < m → cnr m i k = false → 2 < far r c (nth cs i) (nth cs k)) ∧ w = wr) (fun i _ => m - (intOf i).toNat)
  case atStart => exact ⟨0, Nat.zero_le _, rfl, Lib.hid (fun i k h => by omega), rfl⟩
  case round =>
    obtain ⟨ii, hii, rfl, HNO, rfl⟩ := hrel
    by_cases him : ii < m
    · have hi1 : (ii : Int) < (m : Int) := by omega
      have hi0 : (0 : Int) ≤ (ii : Int) := by omega
      obtain ⟨b, off, rfl, hbl, hcc⟩ := H.out (by omega)
      have cp : w.cell? ⟨b, off + ii, none⟩ = some (.int .i64 (nth cs ii : Nat)) := hcc ii him
      obtain ⟨hb6, hb7⟩ := HMID.out.bd him
      obtain ⟨a, ha⟩ : ∃ a, a = nth cs ii := ⟨_, rfl⟩
      rw [← ha] at cp hb6 hb7
      have HA := Lib.hid ha
      obtain ⟨a2, ha2⟩ : ∃ a2, a2 = a - 2 := ⟨_, rfl⟩
      obtain ⟨a3, ha3⟩ : ∃ a3, a3 = a + 2 := ⟨_, rfl⟩
      have e2 : (a : Int) - 2 = (a2 : Int) := by omega
      have e3 : (a : Int) + 2 = (a3 : Int) := by omega
      by_cases hnear : a2 ≤ r ∧ r ≤ a3
      · have g1 : ((r : Int) < (a2 : Int)) = False := by simp; omega
        have g2 : ((a3 : Int) < (r : Int)) = False := by simp; omega
        have ha400 : a ≤ 400 ∧ a2 ≤ 400 ∧ a3 ≤ 402 := by omega
        clear ha ha2 ha3 hnear hcc
        go_wp2_with fail
        clear cp
        go_loopw [35] (fun k wr => ∃ kk : Nat, kk ≤ m ∧ k = .int .i64 kk ∧ Hid (∀ k, k < kk → cnr m ii k = false → 2 < far r c (nth cs ii) (nth cs k)) ∧ w = wr) (fun k _ => m - (intOf k).toNat)
        case atStart => exact ⟨0, Nat.zero_le _, rfl, Lib.hid (fun k h => by omega), rfl⟩
        case round =>
          obtain ⟨kk, hkk, rfl, HNK, rfl⟩ := hrel
          by_cases hkm : kk < m
          · have hk1 : (kk : Int) < (m : Int) := by omega
            have hk0 : (0 : Int) ≤ (kk : Int) := by omega
            obtain ⟨b9, off9, e9, _, hcc⟩ := H.out (by omega)
            injection e9 with e9
            injection e9 with e91 e92
            subst e91 e92
            have cq : w.cell? ⟨b, off + kk, none⟩ = some (.int .i64 (nth cs kk : Nat)) := hcc kk hkm
            obtain ⟨hd6, hd7⟩ := HMID.out.bd hkm
            obtain ⟨d, hd⟩ : ∃ d, d = nth cs kk := ⟨_, rfl⟩
            rw [← hd] at cq hd6 hd7
            have HD := Lib.hid hd
            clear hcc hd
            have hm2 : 2 ≤ m := (HMID.out.n25 (by omega)).2
            obtain ⟨p1, hp1⟩ : ∃ p : Bool, ((ii : Int) == 0) = p := ⟨_, rfl⟩
            obtain ⟨p2, hp2⟩ : ∃ p : Bool, ((kk : Int) == 0) = p := ⟨_, rfl⟩
            obtain ⟨p3, hp3⟩ : ∃ p : Bool, ((kk : Int) == lst) = p := ⟨_, rfl⟩
            obtain ⟨p4, hp4⟩ : ∃ p : Bool, ((ii : Int) == lst) = p := ⟨_, rfl⟩
            have HCN : Hid (cnr m ii kk = ((p1 && (p2 || p3)) || (p4 && p2))) := Lib.hid (by
              rw [← hp1, ← hp2, ← hp3, ← hp4, Bool.eq_iff_iff, cnr_iff]
              have := HLST.out
              simp only [Bool.or_eq_true, Bool.and_eq_true, beq_iff_eq]
              omega)
            go_upto_region 9 with (fail)
            go_cut [59] from 40 to 59 (fun v wx => w = wx ∧ v = .bool (cnr m ii kk))
            case first =>
              go_wp2_with fail
              all_goals go_meet
              all_goals
                refine ⟨rfl, ?_⟩
                rw [HCN.out]
                clear hp1 hp2 hp3 hp4
                simp_all
            case rest =>
              clear hp1 hp2 hp3 hp4
              obtain ⟨rfl, rfl⟩ := hcut
              cases hcn : cnr m ii kk with
              | true =>
                have HNK2 : Hid (∀ k, k < kk + 1 → cnr m ii k = false → 2 < far r c (nth cs ii) (nth cs k)) := Lib.hid (fun k hk hc => by
                  by_cases e : k = kk
                  · rw [e, hcn] at hc; cases hc
                  · exact HNK.out k (by omega) hc)
                clear hcn
                go_wp2_with fail
                go_roundw
                case rel => exact ⟨kk + 1, by omega, by go_num, HNK2, by first | rfl | trivial⟩
                case measure => simp [intOf]; omega
              | false =>
                have HF := Lib.hid (sFar r c a d (by omega) (by omega) (by omega) (by omega) w)
                have HAL : Hid (far r c a d ≤ 2 → al cs m r c = far r c a d) := Lib.hid (fun hf => by
                  rw [HA.out, HD.out]
                  exact HMID.out.al_hit him hkm hcn (by rw [← HA.out, ← HD.out]; exact hf))
                have HNK2 : Hid (¬ far r c a d ≤ 2 → ∀ k, k < kk + 1 → cnr m ii k = false → 2 < far r c (nth cs ii) (nth cs k)) := Lib.hid (fun hf k hk hc => by
                  by_cases e : k = kk
                  · rw [e, ← HA.out, ← HD.out]; omega
                  · exact HNK.out k (by omega) hc)
                obtain ⟨f, hf⟩ : ∃ f, f = far r c a d := ⟨_, rfl⟩
                rw [← hf] at HF HAL HNK2
                clear hcn hf
                by_cases hf2 : f ≤ 2
                · have q1 : (f : Int) ≤ 2 := by omega
                  have HE := Lib.hid (HAL.out hf2)
                  go_wp2_with fail
                  refine HF.out.mono ?_
                  rintro e w5 ⟨rfl, rfl⟩
                  go_wp2_with fail
                  go_ret
                  exact ⟨by rw [HE.out]; rfl, rfl⟩
                · have q1 : ((f : Int) ≤ 2) = False := by simp; omega
                  have HE := Lib.hid (HNK2.out hf2)
                  clear hf2
                  go_wp2_with fail
                  refine HF.out.mono ?_
                  rintro e w5 ⟨rfl, rfl⟩
                  go_wp2_with fail
                  go_roundw
                  case rel => exact ⟨kk + 1, by omega, by go_num, HE, by first | rfl | trivial⟩
                  case measure => simp [intOf]; omega
          · obtain rfl : kk = m := by omega
            have HNO2 : Hid (∀ i k, i < ii + 1 → k < kk → cnr kk i k = false → 2 < far r c (nth cs i) (nth cs k)) := Lib.hid (fun i k hi hk hc => by
              by_cases e : i = ii
              · rw [e] at hc ⊢; exact HNK.out k hk hc
              · exact HNO.out i k (by omega) hk hc)
            go_wp2_with fail
            go_roundw
            case rel => exact ⟨ii + 1, by omega, by go_num, HNO2, by first | rfl | trivial⟩
            case measure => simp [intOf]; omega
      · have HNO2 : Hid (∀ i k, i < ii + 1 → k < m → cnr m i k = false → 2 < far r c (nth cs i) (nth cs k)) := Lib.hid (fun i k hi hk hc => by
          by_cases e : i = ii
          · rw [e]
            exact far_gt _ _ _ _ _ (by rw [← HA.out]; omega)
          · exact HNO.out i k (by omega) hk hc)
        have ha400 : a ≤ 400 ∧ a2 ≤ 400 ∧ a3 ≤ 402 := by omega
        by_cases hlow : r < a2
        · have g1 : (r : Int) < (a2 : Int) := by omega
          clear ha ha2 ha3 hnear hcc
          go_wp2_with fail
          go_roundw
          case rel => exact ⟨ii + 1, by omega, by go_num, HNO2, by first | rfl | trivial⟩
          case measure => simp [intOf]; omega
        · have g1 : ((r : Int) < (a2 : Int)) = False := by simp; omega
          have g2 : (a3 : Int) < (r : Int) := by omega
          clear ha ha2 ha3 hnear hcc
          go_wp2_with fail
          go_roundw
          case rel => exact ⟨ii + 1, by omega, by go_num, HNO2, by first | rfl | trivial⟩
          case measure => simp [intOf]; omega
    · obtain rfl : ii = m := by omega
      have HE : Hid (al cs ii r c = -1) := Lib.hid (Mid.al_no (fun i k hi hk hc => HNO.out i k hi hk hc))
      go_wp2_with fail
      go_ret
      exact ⟨by rw [HE.out]; rfl, rfl⟩
end Go.Proofs.Ythkiajighmhdoaa
