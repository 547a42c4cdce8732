/-
  The statement FnQRPenaltyBlocks, walked. No condition.
-/
import Derived.Test.YtpeipolknphjhaaQPC
namespace Go.Proofs.Ytpeipolknphjhaa
open Go.RowKit Go.Qz
set_option linter.unusedVariables false

theorem alike_eq (s : Nat → Nat → Bool) (k x : Nat) : alike s k x = (decide (s (k + 1) (x + 1) = s k (x + 1)) && (decide (s (k + 1) (x + 1) = s (k + 1) x) && decide (s (k + 1) (x + 1) = s k x))) := by
  unfold alike
  cases s k x <;> cases s k (x + 1) <;> cases s (k + 1) x <;> cases s (k + 1) (x + 1) <;> rfl

set_option maxRecDepth 100000 in
set_option maxHeartbeats 6400000 in
theorem fnQRPenaltyBlocks (w : World) (A : Option Addr) (n0 c : Nat) (L : Nat → Nat) (Z : Nat → Nat → Bool) (hnc : n0 ≤ c) (hcm : c ≤ maxLen) (h : BRows w A n0 L Z) :
    Calls Try.prog 4 #[.slice A n0 c] w fun e w' => e = .returned (.bool true) ∧ Below w.heap.size w w' := by
  have HF := Lib.hid (fits7 A n0 c L Z w hnc hcm h)
  have HR := Lib.hid h
  have HCM := Lib.hid hcm
  clear h hcm
  go_enter Try.func4, Try.ntmps4
  go_wp2_with fail
  refine HF.out.mono ?_
  rintro e w1 ⟨b, rfl, hb, hb1⟩
  have HB1 := Lib.hid hb1
  cases b with
  | false =>
    clear hb hb1
    go_wp2_with fail
    go_ret
    exact ⟨rfl, HB1.out⟩
  | true =>
    have HFT := Lib.hid (hb rfl)
    have HR1 := Lib.hid (HR.out.below hb1)
    clear hb hb1
    by_cases h0 : n0 = 0
    · subst h0
      go_wp2_with fail
      refine (qrCells0 A c w1).mono ?_
      rintro e w2 ⟨B, v, rfl, hb2⟩
      have HB2 := Lib.hid (HB1.out.trans (hb2.mono HB1.out.size))
      clear hb2
      go_wp2_with fail
      go_ret
      exact ⟨rfl, HB2.out⟩
    · obtain ⟨n, hn⟩ : ∃ n, n = min n0 40 := ⟨_, rfl⟩
      have HC := Lib.hid (qrCells A n0 n c L Z (by omega) hn hnc HCM.out w1 HFT.out.2 HR1.out)
      have hn1 : 1 ≤ n := by omega
      have hn4 : n ≤ 40 := by omega
      obtain ⟨s, hs⟩ : ∃ s, s = sqB L Z := ⟨_, rfl⟩
      rw [← hs] at HC
      have hne : ((n : Int) == 0) = false := by simp; omega
      clear hs hn h0
      go_wp2_with fail
      refine HC.out.mono ?_
      rintro e w2 ⟨G1, G2, rfl, HG1, HG2, hb2⟩
      have HB2 := Lib.hid (HB1.out.trans (hb2.mono HB1.out.size))
      have hG2l : G2 + n < w2.heap.size := by
        have := (HG2.out.row (n - 1) (by omega)).lt; omega
      have HQP := Lib.hid (qrPenalty G2 n s hn1 hn4 w2 HG2.out hG2l)
      obtain ⟨m, hm⟩ : ∃ m, m = n - 1 := ⟨_, rfl⟩
      rw [← hm] at HQP
      have hml : m ≤ 39 := by omega
      have HMN : Hid (m + 1 = n) := Lib.hid (by omega)
      clear hb2 HC hm
      go_wp2_with fail
      go_loop [5, 6] (fun p i => ∃ k r : Nat, k ≤ m ∧ r = k + 1 ∧ i = .int .i64 r ∧ p = .int .i64 (cnt s m k : Nat)) (fun _ i => 50 - (intOf i).toNat)
      case atStart => exact ⟨0, 1, by omega, rfl, rfl, rfl⟩
      case round =>
        obtain ⟨k, r, hk, hr, rfl, rfl⟩ := hrel
        by_cases hlt : k < m
        · have hrn : r < n := by have := HMN.out; omega
          have hlt1 : (r : Int) < (n : Int) := by omega
          have hkn : k < n := by have := HMN.out; omega
          have er : (r : Int) - 1 = (k : Int) := by omega
          have hk0 : (0 : Int) ≤ (k : Int) := by omega
          have hk1 : (k : Int) < (n : Int) := by omega
          have hr0 : (0 : Int) ≤ (r : Int) := by omega
          have HCN : Hid (cnt s m (k + 1) = cnt s m k + cntRow s k m) := Lib.hid rfl
          have hcl : cnt s m k ≤ 1600 := by
            have := cnt_le s m k
            have h2 : k * m ≤ 39 * 39 := Nat.mul_le_mul (by omega) (by omega)
            omega
          obtain ⟨q, hq⟩ : ∃ q, q = cnt s m k := ⟨_, rfl⟩
          rw [← hq] at HCN hcl ⊢
          have HRK : Hid (r = k + 1) := Lib.hid hr
          have hrl : r ≤ 40 := by omega
          clear hq hr
          go_wp2_with fail
          go_loop [5, 7] (fun p i => ∃ x c : Nat, x ≤ m ∧ c = x + 1 ∧ i = .int .i64 c ∧ p = .int .i64 ((q + cntRow s k x : Nat) : Int)) (fun _ i => 50 - (intOf i).toNat)
          case atStart => exact ⟨0, 1, by omega, rfl, rfl, rfl⟩
          case round =>
            obtain ⟨x, c, hx, hc, rfl, rfl⟩ := hrel
            by_cases hxl : x < m
            · have hcn : c < n := by have := HMN.out; omega
              have hxn : x < n := by have := HMN.out; omega
              have hc1 : (c : Int) < (n : Int) := by omega
              have hx0 : (0 : Int) ≤ (x : Int) := by omega
              have hc0 : (0 : Int) ≤ (c : Int) := by omega
              have hx2 : (x : Int) < (n : Int) := by omega
              have ec : (c : Int) - 1 = (x : Int) := by omega
              have c00 := HG1.out.cell k x hkn hxn
              have c01 := HG1.out.cell k c hkn hcn
              have c10 := HG1.out.cell r x hrn hxn
              have c11 := HG1.out.cell r c hrn hcn
              have h0 := HG1.out.head k hkn hkn
              have h1 := HG1.out.head r hrn hrn
              have HCR : Hid (cntRow s k c = cntRow s k x + (if alike s k x = true then 1 else 0)) := Lib.hid (by rw [hc]; rfl)
              have hrl2 := cntRow_le s k x
              have HAL : Hid (alike s k x = (decide (s r c = s k c) && (decide (s r c = s r x) && decide (s r c = s k x)))) := Lib.hid (by rw [hc, HRK.out]; exact alike_eq s k x)
              have HX : Hid (c = x + 1) := Lib.hid hc
              have hcl2 : c ≤ 40 := by omega
              obtain ⟨v00, hv00⟩ : ∃ v, v = s k x := ⟨_, rfl⟩
              obtain ⟨v01, hv01⟩ : ∃ v, v = s k c := ⟨_, rfl⟩
              obtain ⟨v10, hv10⟩ : ∃ v, v = s r x := ⟨_, rfl⟩
              obtain ⟨v11, hv11⟩ : ∃ v, v = s r c := ⟨_, rfl⟩
              rw [← hv00] at c00
              rw [← hv01] at c01
              rw [← hv10] at c10
              rw [← hv11] at c11
              rw [← hv00, ← hv01, ← hv10, ← hv11] at HAL
              clear hc hv00 hv01 hv10 hv11
              by_cases d1 : v11 = v01
              · have b1 : (v11 == v01) = true := by simpa using d1
                by_cases d2 : v11 = v10
                · have b2 : (v11 == v10) = true := by simpa using d2
                  by_cases d3 : v11 = v00
                  · have b3 : (v11 == v00) = true := by simpa using d3
                    have HR : Hid (cntRow s k c = cntRow s k x + 1) := Lib.hid (by rw [HCR.out, HAL.out, if_pos (by rw [decide_eq_true d1, decide_eq_true d2, decide_eq_true d3]; rfl)])
                    clear d1 d2 d3 HCR HAL
                    go_wp2_with fail
                    go_round
                    case rel => exact ⟨c, c + 1, by have := HX.out; omega, rfl, by go_num, by rw [HR.out, ← Nat.add_assoc]; go_num⟩
                    case measure => simp [intOf]; have := HX.out; omega
                  · have b3 : (v11 == v00) = false := by simpa using d3
                    have HR : Hid (cntRow s k c = cntRow s k x) := Lib.hid (by rw [HCR.out, HAL.out, if_neg (by rw [decide_eq_false d3]; simp)]; rfl)
                    clear d1 d2 d3 HCR HAL
                    go_wp2_with fail
                    go_round
                    case rel => exact ⟨c, c + 1, by have := HX.out; omega, rfl, by go_num, by rw [HR.out]⟩
                    case measure => simp [intOf]; have := HX.out; omega
                · have b2 : (v11 == v10) = false := by simpa using d2
                  have HR : Hid (cntRow s k c = cntRow s k x) := Lib.hid (by rw [HCR.out, HAL.out, if_neg (by rw [decide_eq_false d2]; simp)]; rfl)
                  clear d1 d2 HCR HAL
                  go_wp2_with fail
                  go_round
                  case rel => exact ⟨c, c + 1, by have := HX.out; omega, rfl, by go_num, by rw [HR.out]⟩
                  case measure => simp [intOf]; have := HX.out; omega
              · have b1 : (v11 == v01) = false := by simpa using d1
                have HR : Hid (cntRow s k c = cntRow s k x) := Lib.hid (by rw [HCR.out, HAL.out, if_neg (by rw [decide_eq_false d1]; simp)]; rfl)
                clear d1 HCR HAL
                go_wp2_with fail
                go_round
                case rel => exact ⟨c, c + 1, by have := HX.out; omega, rfl, by go_num, by rw [HR.out]⟩
                case measure => simp [intOf]; have := HX.out; omega
            · obtain rfl : x = m := by omega
              have hcc : ((c : Int) < (n : Int)) = False := by simp; have := HMN.out; omega
              have HX : Hid (c = x + 1) := Lib.hid hc
              clear hc
              go_wp2_with fail
              go_round
              case rel => exact ⟨k + 1, r + 1, by omega, by rw [HRK.out], by go_num, by rw [HCN.out]⟩
              case measure => simp [intOf]; omega
        · obtain rfl : k = m := by omega
          have hrc : ((r : Int) < (n : Int)) = False := by simp; have := HMN.out; omega
          have hcl : cnt s k k ≤ 1600 := by
            have := cnt_le s k k
            have h2 : k * k ≤ 39 * 39 := Nat.mul_le_mul (by omega) (by omega)
            omega
          have hrl : r ≤ 40 := by omega
          obtain ⟨q, hq⟩ : ∃ q, q = cnt s k k := ⟨_, rfl⟩
          rw [← hq] at hcl HQP ⊢
          obtain ⟨t, ht⟩ : ∃ t, t = 3 * q := ⟨_, rfl⟩
          rw [← ht] at HQP
          have et : (3 : Int) * (q : Int) = (t : Int) := by omega
          clear hq hlt hr ht
          go_wp2_with fail
          refine HQP.out.mono ?_
          rintro e w3 ⟨rfl, hb3⟩
          have HB3 := Lib.hid (HB2.out.trans (hb3.mono HB2.out.size))
          have ett : ((t : Int) == (t : Int)) = true := by simp
          clear hb3
          go_wp2_with fail
          go_ret
          exact ⟨by simp, HB3.out⟩
end Go.Proofs.Ytpeipolknphjhaa
