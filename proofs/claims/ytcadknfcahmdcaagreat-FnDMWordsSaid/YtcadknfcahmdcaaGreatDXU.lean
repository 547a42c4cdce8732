/-
  The reader's words of EDIFACT, walked. No condition beyond the bounds that each theorem states.
-/
import Derived.Test.YtcadknfcahmdcaaGreatDXT
namespace Go.Proofs.YtcadknfcahmdcaaGreat
open Go.RowKit Go.Qz Go.Qz.DF
open Go.Qz.DV hiding val run part
set_option linter.unusedVariables false

/-- Three words of EDIFACT, or less: how many values are said (4: all). -/
theorem sixes_cases {X o rest : List Nat} (h : Sixes X o rest) :
    (X.length ≤ 2 ∧ o = [] ∧ rest = X) ∨
    (∃ a b c r K o2, X = a :: b :: c :: r ∧ a < 256 ∧ b < 256 ∧ c < 256 ∧ K ≤ 4 ∧ (∀ i, i < K → nth (quad a b c) i ≠ 31) ∧ o = ((quad a b c).take K).map six ++ o2 ∧ (K = 4 → Sixes r o2 rest) ∧ (K < 4 → nth (quad a b c) K = 31 ∧ o2 = [] ∧ rest = X.drop (min (K + 1) 3))) := by
  cases h with
  | short h => exact .inl ⟨h, rfl, rfl⟩
  | @full a b c r o2 rest ha hb hc h t => exact .inr ⟨a, b, c, r, 4, o2, rfl, ha, hb, hc, Nat.le_refl _, fun i hi => h _ (nth_mem (by simpa [quad] using hi)), by rw [List.take_of_length_le (by simp [quad])], fun _ => t, fun h => by omega⟩
  | @unl a b c k r ha hb hc hk h h31 =>
    refine .inr ⟨a, b, c, r, k, [], rfl, ha, hb, hc, by omega, fun i hi => ?_, by rw [List.append_nil], fun e => by omega, fun _ => ⟨h31, rfl, rfl⟩⟩
    have hil : i < ((quad a b c).take k).length := by rw [List.length_take]; simp [quad]; omega
    have e : nth ((quad a b c).take k) i = nth (quad a b c) i := by unfold nth; rw [List.getD_eq_getElem?_getD, List.getD_eq_getElem?_getD, List.getElem?_take, if_pos hi]
    rw [← e]
    exact h _ (nth_mem hil)
theorem quad_six_lt {a b c : Nat} (ha : a < 256) (hb : b < 256) (hc : c < 256) {i : Nat} (hi : i < 4) : nth (quad a b c) i < 64 := by
  rcases (show i = 0 ∨ i = 1 ∨ i = 2 ∨ i = 3 by omega) with rfl | rfl | rfl | rfl
  · show a / 4 < 64; omega
  · show a % 4 * 16 + b / 16 < 64; omega
  · show b % 16 * 4 + c / 64 < 64; omega
  · show c % 64 < 64; omega
theorem quad_num {a b c n : Nat} (ha : a < 256) (hb : b < 256) (hc : c < 256) (hn : n = a * 65536 + b * 256 + c) : n / 262144 % 64 = nth (quad a b c) 0 ∧ n / 4096 % 64 = nth (quad a b c) 1 ∧ n / 64 % 64 = nth (quad a b c) 2 ∧ n % 64 = nth (quad a b c) 3 := by
  refine ⟨?_, ?_, ?_, ?_⟩
  · show _ = a / 4; omega
  · show _ = a % 4 * 16 + b / 16; omega
  · show _ = b % 16 * 4 + c / 64; omega
  · show _ = c % 64; omega
theorem or16 {a b : Nat} (hb : b < 256) : a * 65536 ||| b * 256 = a * 65536 + b * 256 := by
  have := Nat.two_pow_add_eq_or_of_lt (i := 16) (b := b * 256) (by omega) a
  rw [show 2 ^ 16 * a = a * 65536 by omega] at this
  exact this.symm
theorem or8 {m c : Nat} (hc : c < 256) : m * 256 ||| c = m * 256 + c := by
  have := Nat.two_pow_add_eq_or_of_lt (i := 8) (b := c) (by omega) m
  rw [show 2 ^ 8 * m = m * 256 by omega] at this
  exact this.symm
theorem and63 (y : Nat) (h : y < 9223372036854775808) : bits .and .i64 (y : Int) 63 = ((y % 64 : Nat) : Int) := by
  have e : y &&& 63 = y % 64 := Nat.and_two_pow_sub_one_eq_mod y 6
  rw [← e]
  exact i64_and y 63 h (by omega)
set_option maxRecDepth 100000 in
set_option maxHeartbeats 12800000 in
theorem rSixes {rb wb wo wc at_ : Nat} {L O : List Nat} {ov : Value} (w : World) (h : Rdr w rb wb wo wc L at_ ov O) (o rest : List Nat) (ht : Sixes (L.drop at_) o rest) (hat : at_ ≤ L.length) (hL : L.length ≤ 10000) (hO : O.length + o.length ≤ 90000) :
    Calls Tryz.prog 50 #[.pointer (some ⟨rb, 0, none⟩)] w (RPost rb wb wo wc L ov (L.length - rest.length) (O ++ o) (.tuple #[]) w) := by
  have HLL := Lib.hid hL
  have HOO := Lib.hid hO
  have HR0 := Lib.hid h
  have HT0 := Lib.hid ht
  have HAT := Lib.hid hat
  clear h ht hL hO hat
  go_enter Tryz.func50, Tryz.ntmps50
  go_wp2_with fail
  go_loopg [] (L.length - at_) (fun k wr => ∃ (a : Nat) (ov' : Value) (O' o' : List Nat), k = L.length - a ∧ a ≤ 10000 ∧ Hid (Rdr wr rb wb wo wc L a ov' O') ∧ Hid (Step rb ov ov' w wr) ∧ Hid (Sixes (L.drop a) o' rest ∧ O' ++ o' = O ++ o ∧ a ≤ L.length))
  case atStart => exact ⟨at_, ov, O, o, rfl, by have := HAT.out; have := HLL.out; omega, HR0, Lib.hid (Step.refl rb ov w), Lib.hid ⟨HT0.out, rfl, HAT.out⟩⟩
  case round =>
    obtain ⟨a, ov1, O1, o1, hgk, hab, HR, HS, HI⟩ := hrel
    obtain ⟨w1, hw1⟩ : ∃ wz, wz = wr := ⟨_, rfl⟩
    rw [← hw1] at HR HS ⊢
    have HGK := Lib.hid hgk
    obtain ⟨R, hR⟩ : ∃ R, R = L.length - a := ⟨_, rfl⟩
    have HLF := Lib.hid (rLeft w1 HR.out (by have := HLL.out; omega) R (by have := HI.out; omega))
    obtain ⟨c0, c1, c2, c3⟩ := HR.out.cells
    have HRE : Hid (R + a = L.length) := Lib.hid (by have := HI.out; omega)
    have hRb : R ≤ 10000 := by have := HLL.out; omega
    have hOb : Hid (O1.length + o1.length ≤ 90000) := Lib.hid (by have h1 := congrArg List.length HI.out.2.1; rw [List.length_append, List.length_append] at h1; have := HOO.out; omega)
    clear hw1 hgk hR c0 c1 c2 HR0 HT0
    have HC := Lib.hid (sixes_cases HI.out.1)
    go_wp2_with fail
    refine HLF.out.mono ?_
    rintro e w' ⟨rfl, mq, rfl⟩
    have HR2 := Lib.hid (HR.out.same (Same.drewN w1 mq))
    have HS2 : Hid (Step rb ov ov1 w (w1.drewN mq)) := Lib.hid (HS.out.trans (Step.of_same (Same.drewN w1 mq)))
    obtain ⟨w2, hw2⟩ : ∃ wz, wz = w1.drewN mq := ⟨_, rfl⟩
    rw [← hw2] at HR2 HS2 ⊢
    clear hw2 HR HS HLF c3
    by_cases h1 : 2 < R
    · have h1i : decide ((2 : Int) < (R : Int)) = true := decide_eq_true (by omega)
      have h1n : decide (2 < R) = true := decide_eq_true h1
      --[more
      obtain ⟨x, y, z, r, K, o2, hX, hx8, hy8, hz8, hK4, hK, ho, hfull, hpart⟩ : ∃ x y z r K o2, L.drop a = x :: y :: z :: r ∧ x < 256 ∧ y < 256 ∧ z < 256 ∧ K ≤ 4 ∧ (∀ i, i < K → nth (quad x y z) i ≠ 31) ∧ o1 = ((quad x y z).take K).map six ++ o2 ∧ (K = 4 → Sixes r o2 rest) ∧ (K < 4 → nth (quad x y z) K = 31 ∧ o2 = [] ∧ rest = (L.drop a).drop (min (K + 1) 3)) := by
        rcases HC.out with ⟨e, _⟩ | h
        · rw [List.length_drop] at e; have := HRE.out; omega
        · exact h
      obtain ⟨a0l, hn0, hd0⟩ := drop_cons hX
      obtain ⟨a1l, hn1, hd1⟩ := drop_cons hd0
      obtain ⟨a2l, hn2, hd2⟩ := drop_cons hd1
      have HNX := Lib.hid (rNext w2 HR2.out (by have := HLL.out; omega) a0l (by rw [hn0]; exact hx8))
      rw [hn0] at HNX
      obtain ⟨e0, e1, e2, e3⟩ := HR2.out.cells
      have HQ : Hid ((∀ i, i < K → nth (quad x y z) i ≠ 31) ∧ o1 = ((quad x y z).take K).map six ++ o2 ∧ (K = 4 → Sixes (L.drop (a + 1 + 1 + 1)) o2 rest) ∧ (K < 4 → nth (quad x y z) K = 31 ∧ o2 = [] ∧ rest = (L.drop a).drop (min (K + 1) 3))) := Lib.hid ⟨hK, ho, fun e => by rw [hd2]; exact hfull e, hpart⟩
      have HN1 : Hid (a + 1 < L.length ∧ nth L (a + 1) = y ∧ a + 1 + 1 < L.length ∧ nth L (a + 1 + 1) = z) := Lib.hid ⟨a1l, hn1, a2l, hn2⟩
      clear hX hK ho hfull hpart a0l hn0 hd0 a1l hn1 hd1 a2l hn2 hd2 HC e0 e2 e3
      go_wp2_with fail
      refine HNX.out.mono ?_
      rintro e w3 ⟨ov3, rfl, HR3, HS3⟩
      have HS3' : Hid (Step rb ov ov3 w w3) := Lib.hid (HS2.out.trans HS3.out)
      have HNX := Lib.hid (rNext w3 HR3.out (by have := HLL.out; omega) HN1.out.1 (by rw [HN1.out.2.1]; exact hy8))
      rw [HN1.out.2.1] at HNX
      obtain ⟨A, hA⟩ : ∃ A, A = x * 65536 := ⟨_, rfl⟩
      obtain ⟨B, hB⟩ : ∃ B, B = y * 256 := ⟨_, rfl⟩
      obtain ⟨AB, hAB⟩ : ∃ AB, AB = A + B := ⟨_, rfl⟩
      obtain ⟨n, hn⟩ : ∃ n, n = AB + z := ⟨_, rfl⟩
      have wA : IntKind.i64.wrap ((x : Int) * 65536) = (A : Int) := by rw [IntKind.wrap_i64]; omega
      have wAi : (x : Int) * 65536 = (A : Int) := by omega
      have wB : IntKind.i64.wrap ((y : Int) * 256) = (B : Int) := by rw [IntKind.wrap_i64]; omega
      have wBi : (y : Int) * 256 = (B : Int) := by omega
      have or1 : bits .or .i64 (A : Int) (B : Int) = (AB : Int) := by
        have := i64_or A B (by omega) (by omega)
        rw [hA, hB, or16 hy8, ← hA, ← hB, ← hAB] at this
        exact this
      have or2 : bits .or .i64 (AB : Int) (z : Int) = (n : Int) := by
        have := i64_or AB z (by omega) (by omega)
        rw [hAB, hA, hB, show x * 65536 + y * 256 = (x * 256 + y) * 256 by omega, or8 hz8, show (x * 256 + y) * 256 = x * 65536 + y * 256 by omega, ← hA, ← hB, ← hAB, ← hn] at this
        exact this
      have hnb : n < 16777216 := by omega
      have HQN := Lib.hid (quad_num hx8 hy8 hz8 (n := n) (by omega))
      have hAb : A < 16777216 := by omega
      have hBb : B < 65536 := by omega
      have hABb : AB < 16777216 := by omega
      clear HS3 HS2 HR2 e1 hA hB hAB hn
      go_wp2_with fail
      refine HNX.out.mono ?_
      rintro e w4 ⟨ov4, rfl, HR4, HS4⟩
      have HS4' : Hid (Step rb ov ov4 w w4) := Lib.hid (HS3'.out.trans HS4.out)
      have HNX := Lib.hid (rNext w4 HR4.out (by have := HLL.out; omega) HN1.out.2.2.1 (by rw [HN1.out.2.2.2]; exact hz8))
      rw [HN1.out.2.2.2] at HNX
      clear HS4 HS3' HR3
      go_wp2_with fail
      refine HNX.out.mono ?_
      rintro e w5 ⟨ov5, rfl, HR5, HS5⟩
      have HS5' : Hid (Step rb ov ov5 w w5) := Lib.hid (HS4'.out.trans HS5.out)
      clear HS5 HS4' HR4 HNX
      go_wp2_with fail
      obtain ⟨wi, hwi⟩ : ∃ wi, wi = wr := ⟨_, rfl⟩
      clear hwi
      go_loopg [30] 4 (fun k i wr => ∃ (ii : Nat) (ovi : Value) (Oi : List Nat), k = 4 - ii ∧ ii ≤ 4 ∧ ii ≤ K ∧ i = .int .i64 ii ∧ Hid (Rdr wr rb wb wo wc L (a + 1 + 1 + 1) ovi Oi) ∧ Hid (Step rb ov ovi w wr) ∧ Hid (Oi = O1 ++ ((quad x y z).take ii).map six))
      case atStart => exact ⟨0, ov5, O1, rfl, by omega, by omega, rfl, HR5, HS5', Lib.hid (by simp)⟩
      case round =>
        obtain ⟨ii, ovi, Oi, hgi, hi4, hiK, hii, HRi, HSi, HOi⟩ := hrel
        subst hii
        obtain ⟨wo1, hwo⟩ : ∃ wz, wz = wr := ⟨_, rfl⟩
        rw [← hwo] at HRi HSi ⊢
        have HGI := Lib.hid hgi
        clear hwo hgi HR5 HS5'
        by_cases hlt : ii < 4
        · have hlt1 : decide ((ii : Int) < 4) = true := decide_eq_true (by omega)
          have hlt2 : (ii : Int) < 4 := by omega
          obtain ⟨i1, hi1⟩ : ∃ i1, i1 = ii + 1 := ⟨_, rfl⟩
          have qi : IntKind.i64.wrap ((ii : Int) + 1) = (i1 : Int) := by rw [IntKind.wrap_i64]; omega
          have HI1 : Hid (i1 = ii + 1 ∧ ii < 4) := Lib.hid ⟨hi1, hlt⟩
          obtain ⟨v, hv⟩ : ∃ v, v = nth (quad x y z) ii := ⟨_, rfl⟩
          have hv64 : v < 64 := by rw [hv]; exact quad_six_lt hx8 hy8 hz8 hlt
          have HV := Lib.hid hv
          clear hi1 hv
          go_upto_region 6 with (fail)
          go_cut [5] from 33 to 38 (fun b wx => b = .int .i64 v ∧ wx = wo1)
          case first =>
            clear HRi HSi qi
            rcases (show ii = 0 ∨ ii = 1 ∨ ii = 2 ∨ ii = 3 by omega) with rfl | rfl | rfl | rfl
            all_goals have HV0 := Lib.hid HV.out.symm
            · obtain ⟨s0, hs0⟩ : ∃ s, s = n / 262144 := ⟨_, rfl⟩
              have e1 : (n : Int) / 262144 = (s0 : Int) := by omega
              have e2 := and63 s0 (by omega)
              rw [hs0, HQN.out.1, ← hs0, HV0.out] at e2
              clear hs0
              go_wp2_with fail
              go_meet
              case rel => exact ⟨rfl, rfl⟩
            · obtain ⟨s0, hs0⟩ : ∃ s, s = n / 4096 := ⟨_, rfl⟩
              have e1 : (n : Int) / 4096 = (s0 : Int) := by omega
              have e2 := and63 s0 (by omega)
              rw [hs0, HQN.out.2.1, ← hs0, HV0.out] at e2
              clear hs0
              go_wp2_with fail
              go_meet
              case rel => exact ⟨rfl, rfl⟩
            · obtain ⟨s0, hs0⟩ : ∃ s, s = n / 64 := ⟨_, rfl⟩
              have e1 : (n : Int) / 64 = (s0 : Int) := by omega
              have e2 := and63 s0 (by omega)
              rw [hs0, HQN.out.2.2.1, ← hs0, HV0.out] at e2
              clear hs0
              go_wp2_with fail
              go_meet
              case rel => exact ⟨rfl, rfl⟩
            · have e2 := and63 n (by omega)
              rw [HQN.out.2.2.2, HV0.out] at e2
              go_wp2_with fail
              go_meet
              case rel => exact ⟨rfl, rfl⟩
          case rest =>
            obtain ⟨rfl, hwc⟩ := hcut
            rw [hwc]
            clear hwc
            by_cases h31 : v = 31
            · obtain rfl : v = 31 := h31
              have hKi : ii = K := by
                rcases Nat.lt_or_ge ii K with g | g
                · exact absurd HV.out.symm (HQ.out.1 ii g)
                · omega
              obtain ⟨e0, e1, e2, e3⟩ := HRi.out.cells
              have f1 := HRi.out.ar.free 1
              obtain ⟨mn, hmn⟩ : ∃ mn, mn = min i1 3 := ⟨_, rfl⟩
              obtain ⟨at2, hat2⟩ : ∃ at2, at2 = a + mn := ⟨_, rfl⟩
              have q1 : IntKind.i64.wrap ((a : Int) + (mn : Int)) = (at2 : Int) := by rw [IntKind.wrap_i64]; omega
              have HR9 := Lib.hid (HRi.out.setAt at2)
              have HS9 : Hid (Step rb ov ovi w (wo1.setCell ⟨rb, 1, none⟩ (.int .i64 at2))) := Lib.hid (HSi.out.trans (Step.of_p (Mod.set1 wo1 rb 1 _)))
              have HFIN : Hid (Oi = O ++ o ∧ at2 = L.length - rest.length) := Lib.hid (by
                obtain ⟨g1, g2, g3⟩ := HQ.out.2.2.2 (by omega)
                have h2 := HI.out.2.1
                rw [HQ.out.2.1, g2, List.append_nil] at h2
                refine ⟨by rw [HOi.out, hKi]; exact h2, ?_⟩
                rw [g3, List.length_drop, List.length_drop, hat2, hmn, HI1.out.1, hKi]
                have := HN1.out.2.2.1
                have : min (K + 1) 3 ≤ 3 := Nat.min_le_right _ _
                omega)
              have hmin : min (i1 : Int) 3 = (mn : Int) := by omega
              clear hKi hmn hat2 e0 e2 e3 HRi HSi
              go_wp2_with fail
              refine bodyPost_ret (v := .tuple #[]) (by simp [results, Tryz.results50, go_sem]) rfl ⟨ovi, rfl, Lib.hid (by rw [← HFIN.out.1, ← HFIN.out.2]; exact HR9.out), HS9⟩
            · have d31 : ((v : Int) == 31) = false := by simp; omega
              have hiK2 : Hid (ii < K) := Lib.hid (by
                rcases Nat.lt_or_ge ii K with g | g
                · exact g
                · exfalso
                  have : ii = K := by omega
                  have h2 := (HQ.out.2.2.2 (by omega)).1
                  rw [← this, ← HV.out] at h2
                  exact h31 h2)
              obtain ⟨u, hu⟩ : ∃ u, u = six v := ⟨_, rfl⟩
              have hub : u ≤ 127 := by rw [hu]; unfold six; split <;> omega
              have HO2 : Hid (Oi ++ [u] = O1 ++ ((quad x y z).take i1).map six) := Lib.hid (by
                rw [HOi.out, HI1.out.1, List.append_assoc]
                congr 1
                have hq4 : ii < (quad x y z).length := by simp [quad]; exact HI1.out.2
                rw [List.take_succ_eq_append_getElem hq4, List.map_append, hu, HV.out, nth_eq hq4]; rfl)
              have HOL : Hid (Oi.length ≤ 90000) := Lib.hid (by
                have h2 := hOb.out
                have h3 := congrArg List.length HQ.out.2.1
                have h5 := congrArg List.length HOi.out
                rw [List.length_append, List.length_map, List.length_take] at h3 h5
                have := hiK2.out
                omega)
              have HSY := Lib.hid (rSay wo1 HRi.out u hub (by have := HOL.out; omega))
              by_cases h32 : v < 32
              · have d32 : decide ((v : Int) < 32) = true := decide_eq_true (by omega)
                have d32n : decide (v < 32) = true := decide_eq_true h32
                have q64 : IntKind.i64.wrap ((v : Int) + 64) = (u : Int) := by rw [IntKind.wrap_i64]; have : u = v + 64 := (by rw [hu]; unfold six; rw [if_pos h32]); omega
                clear hu h31 h32
                go_wp2_with fail
                refine HSY.out.mono ?_
                rintro e w7 ⟨ov7, rfl, HR7, HS7⟩
                have HS7' : Hid (Step rb ov ov7 w w7) := Lib.hid (HSi.out.trans HS7.out)
                clear HSY HS7 HRi HSi
                go_wp2_with fail
                go_roundg (4 - i1)
                case measure => have := HI1.out; have := HGI.out; omega
                case rel => exact ⟨i1, ov7, Oi ++ [u], rfl, by have := HI1.out; omega, by have := HI1.out; have := hiK2.out; omega, rfl, HR7, HS7', HO2⟩
              · have d32 : decide ((v : Int) < 32) = false := decide_eq_false (by omega)
                have d32n : decide (v < 32) = false := decide_eq_false h32
                obtain rfl : u = v := by rw [hu]; unfold six; rw [if_neg h32]
                clear hu h31 h32
                go_wp2_with fail
                refine HSY.out.mono ?_
                rintro e w7 ⟨ov7, rfl, HR7, HS7⟩
                have HS7' : Hid (Step rb ov ov7 w w7) := Lib.hid (HSi.out.trans HS7.out)
                clear HSY HS7 HRi HSi
                go_wp2_with fail
                go_roundg (4 - i1)
                case measure => have := HI1.out; have := HGI.out; omega
                case rel => exact ⟨i1, ov7, Oi ++ [u], rfl, by have := HI1.out; omega, by have := HI1.out; have := hiK2.out; omega, rfl, HR7, HS7', HO2⟩
        · have hlt1 : decide ((ii : Int) < 4) = false := decide_eq_false (by omega)
          have hlt2 : ((ii : Int) < 4) = False := eq_false (by omega)
          obtain rfl : ii = 4 := by omega
          obtain rfl : K = 4 := by omega
          have hab3 : a + 1 + 1 + 1 ≤ 10000 := by have := HN1.out; have := HLL.out; omega
          have HFI : Hid (Sixes (L.drop (a + 1 + 1 + 1)) o2 rest ∧ Oi ++ o2 = O ++ o ∧ a + 1 + 1 + 1 ≤ L.length) := Lib.hid ⟨HQ.out.2.2.1 rfl, by
            rw [HOi.out, List.append_assoc, ← HQ.out.2.1]; exact HI.out.2.1, by have := HN1.out; omega⟩
          clear hlt HOi
          go_wp2_with fail
          go_roundg (L.length - (a + 1 + 1 + 1))
          case measure => have := HGK.out; have := HFI.out; omega
          case rel => exact ⟨a + 1 + 1 + 1, ovi, Oi, o2, rfl, hab3, HRi, HSi, HFI⟩
      --]more
    · have h1i : decide ((2 : Int) < (R : Int)) = false := decide_eq_false (by omega)
      have h1n : decide (2 < R) = false := decide_eq_false h1
      have HFIN : Hid (O1 = O ++ o ∧ a = L.length - rest.length) := Lib.hid (by
        rcases HC.out with ⟨e, g1, g2⟩ | ⟨x, y, z, r, K, o2, e, _⟩
        · have h2 := HI.out.2.1
          rw [g1, List.append_nil] at h2
          refine ⟨h2, ?_⟩
          rw [g2, List.length_drop]
          have := HRE.out
          omega
        · have h3 := congrArg List.length e
          rw [List.length_drop] at h3
          simp only [List.length_cons] at h3
          have := HRE.out; omega)
      clear HC h1
      go_wp2_with fail
      go_end0
      exact ⟨ov1, rfl, Lib.hid (by rw [← HFIN.out.1, ← HFIN.out.2]; exact HR2.out), HS2⟩
end Go.Proofs.YtcadknfcahmdcaaGreat
