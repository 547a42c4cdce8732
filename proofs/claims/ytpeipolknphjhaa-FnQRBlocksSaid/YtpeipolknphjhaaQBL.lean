/-
  The statement FnQRBlocks, walked. No condition.
-/
import Derived.Test.YtpeipolknphjhaaQBP
namespace Go.Proofs.Ytpeipolknphjhaa
open Go.RowKit Go.Qz Go.Qz.QW Go.Qz.QI
set_option linter.unusedVariables false

theorem quietNB {P : Program} {f : FuncId} {args : Array Value} {w : World} {n : Nat} {v : Value}
    (h : Calls P f args (w.drewN n) fun e w' => e = .returned v ∧ ∃ m, w' = (w.drewN n).drewN m) : Calls P f args (w.drewN n) fun e w'' => e = .returned v ∧ ∃ m, w'' = w.drewN m :=
  h.mono fun _ _ ⟨he, m, hm⟩ => ⟨he, n + m, by rw [hm, World.drewN_drewN]⟩
set_option maxRecDepth 100000 in
set_option maxHeartbeats 1600000 in
theorem bytesSameQ (A B : Option Addr) (n c1 c2 : Nat) (hn : n < 1000000) (f : Nat → Nat) (w : World) (h1 : Rd w A n (fun j => .int .u8 (f j : Nat))) (h2 : Rd w B n (fun j => .int .u8 (f j : Nat))) :
    Calls Try.prog 26 #[.slice A n c1, .slice B n c2] w fun e w' => e = .returned (.bool true) ∧ ∃ m, w' = w.drewN m := by
  have H1 := Lib.hid h1
  have H2 := Lib.hid h2
  clear h1 h2
  go_enter Try.func26, Try.ntmps26
  go_wp2_with fail
  go_loopw [13] (fun i wr => ∃ (k d : Nat), k ≤ n ∧ i = .int .i64 k ∧ wr = w.drewN d) (fun i _ => n - (intOf i).toNat)
  case atStart => exact ⟨0, 0, by omega, rfl, rfl⟩
  case round =>
    obtain ⟨k, d, hk, rfl, rfl⟩ := hrel
    by_cases hlt : k < n
    · obtain ⟨b1, o1, rfl, hb1, hc1⟩ := H1.out (by omega)
      obtain ⟨b2, o2, rfl, hb2, hc2⟩ := H2.out (by omega)
      have e1 : w.cell? ⟨b1, o1 + k, none⟩ = _ := hc1 k hlt
      have e2 : w.cell? ⟨b2, o2 + k, none⟩ = _ := hc2 k hlt
      dsimp only at e1 e2
      obtain ⟨v, hv⟩ : ∃ v, v = f k := ⟨_, rfl⟩
      rw [← hv] at e1 e2
      have hk1 : (k : Int) < (n : Int) := by omega
      have hk0 : (0 : Int) ≤ (k : Int) := by omega
      have hvv : ((v : Int) != (v : Int)) = false := by simp
      clear hc1 hc2 hv
      go_wp2_with fail
      go_quiet (fail)
      go_wp2_with fail
      go_roundw
      case rel => exact ⟨k + 1, _, by omega, by go_num, rfl⟩
      case measure => simp [intOf]; omega
    · obtain rfl : k = n := by omega
      have hk1 : ((k : Int) < (k : Int)) = False := by simp
      go_wp2_with fail
      go_ret
      exact ⟨rfl, _, rfl⟩

set_option maxRecDepth 100000 in
set_option maxHeartbeats 6400000 in
theorem fnQRBlocks (w : World) (A : Option Addr) (n0 c0 : Nat) (z : Nat → Int) (hnc : n0 ≤ c0) (hcm : c0 ≤ maxLen) (hz : ∀ j, j < n0 → (Lit.int .u8 (z j)).wf = true) (h : Rd w A n0 (fun j => .int .u8 (z j))) (x : Int) (hx : (Lit.int .u8 x).wf = true) (y : Int) (hy : (Lit.int .u8 y).wf = true) (mo : Int) (hmo : (Lit.int .i8 mo).wf = true) :
    Calls Try.prog 7 #[.slice A n0 c0, .int .u8 x, .int .u8 y, .int .i8 mo] w fun e w' => e = .returned (.bool true) ∧ Below w.heap.size w w' := by
  obtain ⟨x, rfl⟩ : ∃ z : Nat, x = z := ⟨x.toNat, by have := bd_u8 hx; omega⟩
  obtain ⟨y, rfl⟩ : ∃ z : Nat, y = z := ⟨y.toNat, by have := bd_u8 hy; omega⟩
  have hx1 : x < 256 := by have := bd_u8 hx; omega
  have hy1 : y < 256 := by have := bd_u8 hy; omega
  have hm1 : -128 ≤ mo ∧ mo ≤ 127 := by simpa [Lit.wf, IntKind.min, IntKind.max, IntKind.signed, IntKind.bits] using hmo
  obtain ⟨hm1, hm2⟩ := hm1
  have hz2 : ∀ j, j < n0 → 0 ≤ z j ∧ z j ≤ 255 := fun j hj => bd_u8 (hz j hj)
  clear hx hy hmo hz
  by_cases hbig : (2147483647 : Int) < n0
  · go_enter Try.func7, Try.ntmps7
    go_wp2_with fail
    go_ret
    exact ⟨rfl, Below.refl _ _⟩
  obtain ⟨n, hn⟩ : ∃ n, n = 1 + x % 40 := ⟨_, rfl⟩
  obtain ⟨l, hl⟩ : ∃ l, l = y % 4 := ⟨_, rfl⟩
  have HV := Lib.hid (qrVer x hx1)
  have HL := Lib.hid (qrLev y hy1)
  rw [← hn] at HV
  rw [← hl] at HL
  have h1 : 1 ≤ n := by omega
  have h2 : n ≤ 40 := by omega
  have hl4 : l < 4 := by omega
  clear hn hl hx1 hy1
  have HT := Lib.hid (total n h1 h2 w)
  have hO := shOf_ok h1 h2 hl4
  have hTl := Sh.tot_le hO
  rw [shOf_tot h1 h2 hl4] at hTl
  obtain ⟨T, hT⟩ : ∃ T, T = totOf n := ⟨_, rfl⟩
  rw [← hT] at HT hTl
  obtain ⟨m, hm⟩ : ∃ m, m = ((T : Int) + mo).toNat := ⟨_, rfl⟩
  have e1 : (if (0 : Int) < (T : Int) + mo then (T : Int) + mo else 0) = (m : Int) := by split <;> omega
  have hml : m < 20000 := by omega
  have HR := Lib.hid (fun W hb => qrRaw_ A n0 c0 m z hz2 (by omega) (by omega) W (h.below hb))
  have HTE := Lib.hid hT
  have hbig2 : ((2147483647 : Int) < n0) = False := by simpa using hbig
  have HME := Lib.hid hm
  clear hT hm hz2 h hO
  go_enter Try.func7, Try.ntmps7
  go_wp2_with fail
  refine (HV.out _).mono ?_
  rintro e w1 ⟨rfl, rfl⟩
  go_wp2_with fail
  refine (HL.out _).mono ?_
  rintro e w1 ⟨rfl, rfl⟩
  go_wp2_with fail
  refine HT.out.mono ?_
  rintro e w1 ⟨rfl, hb⟩
  have HB1 := Lib.hid hb
  clear hb HT HV HL
  go_wp2_with fail
  refine (HR.out _ HB1.out).mono ?_
  rintro e w2 ⟨b, f, rfl, hA, hbl, hb⟩
  have HB2 := Lib.hid (HB1.out.trans (hb.mono HB1.out.size))
  have HRD : Hid (Rd w2 (some ⟨b, 0, none⟩) m (fun j => .int .u8 (f j : Nat))) := Lib.hid (fun _ => ⟨b, 0, rfl, hA.lt, fun j hj => by rw [Nat.zero_add, hA.cell?, rowV_get _ _ _ hj]⟩)
  clear hA hbl hb HR
  go_wp2_with fail
  by_cases hmT : m = T
  · have HMT := Lib.hid (show m = totOf n by rw [hmT]; exact HTE.out)
    refine (qrBlocks n l m m h1 h2 hl4 _ f HMT.out w2 HRD.out).mono ?_
    rintro e w3 ⟨A1, c1, A2, c2, rfl, hU, hD, hb⟩
    have HB3 := Lib.hid (HB2.out.trans (hb.mono HB2.out.size))
    have HU := Lib.hid hU
    have HD := Lib.hid hD
    have HRD3 := Lib.hid (HRD.out.below hb)
    have hmT2 : ((m : Int) == (T : Int)) = true := by simp [hmT]
    have hmT3 : ((m : Int) != (T : Int)) = false := by simp [hmT]
    obtain ⟨N, hN⟩ : ∃ N, N = (shOf' n l).nb := ⟨_, rfl⟩
    have hN1 : N ≤ 81 := by rw [hN]; exact (shOf_ok h1 h2 hl4).nb1
    rw [← hN] at HU HD ⊢
    have HN := Lib.hid hN
    clear hb hU hD hmT hN
    go_wp2_with fail
    refine (unmixed n l m m h1 h2 hl4 _ f HMT.out w3 HRD3.out).mono ?_
    rintro e w4 ⟨G, rfl, hW, hG, hb⟩
    rw [← HN.out] at hW ⊢
    have HB4 := Lib.hid (HB3.out.trans (hb.mono HB3.out.size))
    have HW := Lib.hid hW
    have HU4 := Lib.hid (HU.out.below hb)
    have HD4 := Lib.hid (HD.out.below hb)
    have HRD4 := Lib.hid (HRD3.out.below hb)
    have hNN : ((N : Int) != (N : Int)) = false := by simp
    have HSZ := Lib.hid (fun W => dataSizes n l h1 h2 hl4 W)
    clear hb hW hG HU HD HRD3
    go_wp2_with fail
    refine (HSZ.out _).mono ?_
    rintro e w5 ⟨D, rfl, hIA, hD, hb⟩
    rw [← HN.out] at hIA ⊢
    have HB5 := Lib.hid (HB4.out.trans (hb.mono HB4.out.size))
    have HW5 := Lib.hid (HW.out.below hb)
    have HU5 := Lib.hid (HU4.out.below hb)
    have HRD5 := Lib.hid (HRD4.out.below hb)
    have HSM := Lib.hid (intsSame A2 (some ⟨D, 0, none⟩) N c2 N (by omega) (shOf' n l).ds w5 (HD4.out.below hb) (by
      have h5 := hIA.rd
      rw [sizeTo_len, ← HN.out] at h5
      exact h5.congr (fun j hj => by rw [sizeTo_nth _ _ _ (by rw [← HN.out]; exact hj), if_pos hj])))
    clear hb hIA hD HW HU4 HD4 HRD4 HSZ
    go_wp2_with fail
    refine HSM.out.mono ?_
    rintro e w6 ⟨rfl, hb⟩
    have HB6 := Lib.hid (HB5.out.trans (hb.mono HB5.out.size))
    have HW6 := Lib.hid (HW5.out.below hb)
    have HU6 := Lib.hid (HU5.out.below hb)
    have HRD6 := Lib.hid (HRD5.out.below hb)
    have HO := Lib.hid (shOf_ok h1 h2 hl4)
    obtain ⟨s, hs⟩ : ∃ s, s = shOf' n l := ⟨_, rfl⟩
    rw [← hs] at HW6 HU6 HO
    have HS := Lib.hid hs
    clear hb HW5 HU5 HRD5 HSM hs
    go_wp2_with fail
    go_loopw [71] (fun i wr => ∃ k : Nat, k ≤ N ∧ i = .int .i64 k ∧ Hid (Below w6.heap.size w6 wr)) (fun i _ => N - (intOf i).toNat)
    case atStart => exact ⟨0, by omega, rfl, Lib.hid (Below.refl _ _)⟩
    case round =>
      obtain ⟨k, hk, rfl, HB⟩ := hrel
      by_cases hlt : k < N
      · have hk1 : (k : Int) < (N : Int) := by omega
        have hk0 : (0 : Int) ≤ (k : Int) := by omega
        obtain ⟨b1, o1, rfl, hb1, hr1⟩ := (HU6.out.below HB.out) (by omega)
        obtain ⟨B1, C1, d1, _, e1⟩ := hr1 k hlt
        obtain ⟨b2, o2, hG2, hb2, hr2⟩ := (HW6.out.below HB.out) (by omega)
        injection hG2 with hG2
        injection hG2 with q1 q2 _
        subst q1 q2
        obtain ⟨B2, C2, d2, _, e2⟩ := hr2 k hlt
        have hlen : s.len k < 1000000 := by have := Sh.ds_le s k; have := HO.out.sh1; have := HO.out.ec1; unfold Sh.len; omega
        have HQ := Lib.hid (fun d => bytesSameQ B1 B2 (s.len k) C1 C2 hlen (fun i => f (s.at_ k i)) (wr.drewN d) e1 e2)
        rw [Nat.zero_add] at d2
        obtain ⟨L, hL⟩ : ∃ L, L = s.len k := ⟨_, rfl⟩
        rw [← hL] at d1 d2 HQ
        clear hr1 hr2 e1 e2 hlen hL hb1 hb2
        go_wp2_with fail
        go_quiet ((go_at_call 26; exact quietNB (HQ.out _)))
        go_wp2_with fail
        go_roundw
        case rel => exact ⟨k + 1, by omega, by go_num, Lib.hid (below_drewN HB.out _)⟩
        case measure => simp [intOf]; omega
      · obtain rfl : k = N := by omega
        have hk1 : ((k : Int) < (k : Int)) = False := by simp
        have HMX := Lib.hid (mixed n l c1 h1 h2 hl4 A1 f wr (by
          have h5 := HU6.out.below HB.out
          rw [HN.out, HS.out] at h5
          exact h5))
        have hnb : nbOf n l = k := HN.out.symm
        rw [hnb] at HMX
        have HTT := Lib.hid (shOf_tot h1 h2 hl4)
        have HB7 := Lib.hid (HB6.out.trans (HB.out.mono HB6.out.size))
        have HRD7 := Lib.hid (HRD6.out.below HB.out)
        clear hnb
        go_wp2_with fail
        refine HMX.out.mono ?_
        rintro e w8 ⟨A8, c8, rfl, hr8, hb⟩
        rw [HTT.out, ← HMT.out] at hr8 ⊢
        have HB8 := Lib.hid (HB7.out.trans (hb.mono HB7.out.size))
        have HQ := Lib.hid (bytesSameQ A8 (some ⟨b, 0, none⟩) m c8 m (by omega) f w8 hr8 (HRD7.out.below hb))
        clear hb hr8 HMX
        go_wp2_with fail
        refine HQ.out.mono ?_
        rintro e w9 ⟨rfl, d, rfl⟩
        go_wp2_with fail
        go_ret
        exact ⟨rfl, below_drewN HB8.out d⟩
  · refine (qrBlocks_no n l m m h1 h2 _ f (by omega) (by rw [← HTE.out]; exact hmT) w2 HRD.out).mono ?_
    rintro e w3 ⟨rfl, hb⟩
    have HB3 := Lib.hid (HB2.out.trans (hb.mono HB2.out.size))
    have hmT2 : ((m : Int) == (T : Int)) = false := by simp; omega
    have hmT3 : ((m : Int) != (T : Int)) = true := by simp; omega
    clear hb hmT
    go_wp2_with fail
    go_ret
    exact ⟨rfl, HB3.out⟩
end Go.Proofs.Ytpeipolknphjhaa
