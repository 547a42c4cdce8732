/-
  BitMatrix.Rotate180, walked. No condition beyond the bounds that each theorem states.
-/
import Derived.Test.YtcfcbcjaiplllaaBMU
import Derived.Test.YtcfcbcjaiplllaaREW
import Derived.Test.YtcfcbcjaiplllaaBMZ
import Derived.StillTailTactics
namespace Go.Proofs.Ytcfcbcjaiplllaa
open Go.RowKit Go.Qz
set_option linter.unusedVariables false

set_option maxRecDepth 100000 in
set_option maxHeartbeats 12800000 in
theorem bm_rot180 (p g W H : Nat) (ws : List Nat) (w : World) (h : BM w p g ws W H) (hW : W < 1000) (hH : H < 1000) (hW0 : 0 < W) (hH0 : 0 < H) (hW32 : W % 32 ≠ 0) :
    Calls Try.prog 35 #[.pointer (some ⟨p, 0, none⟩)] w fun e w' => ∃ ws', e = .returned (.tuple #[]) ∧ Hid (BM w' p g ws' W H) ∧ Hid (∀ x y, x < W → y < H → mb ws' W x y = mb ws W (W - 1 - x) (H - 1 - y)) ∧ Hid (Mod (fun b => b = g) w w') := by
  have hhei := h.height
  have hrow := h.rowSize
  have HH := Lib.hid h
  have hlen := h.len
  obtain ⟨R, hRe⟩ : ∃ R, R = (W + 31) / 32 := ⟨_, rfl⟩
  rw [← hRe] at hrow hlen
  have hRl : R < 1000 := by omega
  have HRE := Lib.hid hRe
  have HLEN := Lib.hid hlen
  obtain ⟨h2, hh2⟩ : ∃ h2, h2 = H / 2 := ⟨_, rfl⟩
  have eh2 : (H : Int) / 2 = (h2 : Int) := by omega
  have hh2l : h2 ≤ H := by omega
  have HH2 := Lib.hid hh2
  clear h hRe hlen hh2
  go_enter Try.func35, Try.ntmps35
  go_wp2_with fail
  clear hhei hrow
  go_loopw [4] (fun i wr => ∃ (k : Nat) (ws' : List Nat), k ≤ h2 ∧ i = .int .i64 k ∧ Hid (BM wr p g ws' W H) ∧ Hid (Swp ws ws' (k * R)) ∧ Hid (Mod (fun b => b = g) w wr)) (fun i _ => h2 - (intOf i).toNat)
  case atStart => exact ⟨0, ws, by omega, rfl, HH, Lib.hid (by rw [Nat.zero_mul]; exact Swp.zero ws), Lib.hid (Mod.refl _)⟩
  case round =>
    obtain ⟨k, ws', hk, rfl, HB, HS, HM⟩ := hrel
    by_cases hlt : k < h2
    · obtain ⟨m, hm⟩ : ∃ m, m = k * R := ⟨_, rfl⟩
      have em : (k : Int) * (R : Int) = (m : Int) := by rw [hm]; simp
      have hml : m < 1000000 := by rw [hm]; exact Nat.lt_of_le_of_lt (Nat.mul_le_mul (show k ≤ 999 by omega) (show R ≤ 999 by omega)) (by decide)
      have hwm : IntKind.i64.wrap (m : Int) = (m : Int) := by rw [IntKind.wrap_i64]; omega
      obtain ⟨N, hN⟩ : ∃ N, N = ws.length := ⟨_, rfl⟩
      have hNl : N < 1000000 := by rw [hN, HLEN.out]; exact Nat.lt_of_le_of_lt (Nat.mul_le_mul (show R ≤ 999 by omega) (show H ≤ 999 by omega)) (by decide)
      have hNm : N = (H - k) * R + m := by rw [hN, HLEN.out, hm, ← Nat.add_mul, show H - k + k = H by omega, Nat.mul_comm]
      have hNr : 2 * (m + R) ≤ N := by
        have e : 2 * ((k + 1) * R) ≤ H * R := by rw [← Nat.mul_assoc]; exact Nat.mul_le_mul_right _ (by have := HH2.out; omega)
        rw [hN, HLEN.out, Nat.mul_comm R H, hm, ← Nat.succ_mul]; exact e
      have hmk : (k + 1) * R = m + R := by rw [hm, Nat.succ_mul]
      have ek : (H : Int) - (k : Int) = ((H - k : Nat) : Int) := by omega
      have eb : ((H - k : Nat) : Int) * (R : Int) = ((N - m : Nat) : Int) := by rw [hNm, Nat.add_sub_cancel]; simp
      have hwb : IntKind.i64.wrap ((N - m : Nat) : Int) = ((N - m : Nat) : Int) := by rw [IntKind.wrap_i64]; omega
      rw [← hm] at HS
      have HNN := Lib.hid hN
      have HNR := Lib.hid hNr
      have HMK := Lib.hid hmk
      clear hm hN hNm hNr hmk
      go_wp2_with fail
      go_loopw [7] (fun i wr => ∃ (j : Nat) (ws' : List Nat), j ≤ R ∧ i = .int .i64 j ∧ Hid (BM wr p g ws' W H) ∧ Hid (Swp ws ws' (m + j)) ∧ Hid (Mod (fun b => b = g) w wr)) (fun i _ => R - (intOf i).toNat)
      case atStart => exact ⟨0, ws', by omega, rfl, HB, HS, HM⟩
      case round =>
        obtain ⟨j, ws', hj, rfl, HB, HS, HM⟩ := hrel
        by_cases hjl : j < R
        · obtain ⟨t, ht⟩ : ∃ t, t = m + j := ⟨_, rfl⟩
          rw [← ht] at HS
          obtain ⟨b, hb⟩ : ∃ b, b = N - 1 - t := ⟨_, rfl⟩
          have htN : 2 * t + 1 < N := by have := HNR.out; omega
          have htb : t < b := by omega
          have htw : t < ws'.length := by rw [HS.out.1, ← HNN.out]; omega
          have hbw : b < ws'.length := by rw [HS.out.1, ← HNN.out]; omega
          have hbits := HB.out.bits
          rw [HS.out.1, ← HNN.out] at hbits
          have wt := HB.out.word htw
          have wb := HB.out.word hbw
          have ft := HB.out.free t
          have fb := HB.out.free b
          have xt := HB.out.lt _ (nth_mem htw)
          have xb := HB.out.lt _ (nth_mem hbw)
          have hS2 := HS.out.step (by rw [← HNN.out]; exact htN)
          rw [← HNN.out, ← hb] at hS2
          have HB2 := Lib.hid ((HB.out.set_ t _ xb).set_ b _ xt)
          have HS2 := Lib.hid hS2
          obtain ⟨u, hu⟩ : ∃ u, u = nth ws' t := ⟨_, rfl⟩
          obtain ⟨v, hv⟩ : ∃ v, v = nth ws' b := ⟨_, rfl⟩
          rw [← hu] at wt xt HB2 HS2
          rw [← hv] at wb xb HB2 HS2
          have HM2 := Lib.hid (HM.out.trans ((Mod.set1 wr g t (.int .u32 (v : Int))).trans (Mod.set1 _ g b (.int .u32 (u : Int)))))
          have et : (m : Int) + (j : Int) = (t : Int) := by omega
          have eb2 : ((N - m : Nat) : Int) - 1 - (j : Int) = (b : Int) := by omega
          have t0 : (0 : Int) ≤ (t : Int) := by omega
          have t1 : (t : Int) < (N : Int) := by omega
          have b0 : (0 : Int) ≤ (b : Int) := by omega
          have b1 : (b : Int) < (N : Int) := by omega
          have ne1 : ¬ t = b := by omega
          have ne2 : ¬ b = t := by omega
          have hj0 : (0 : Int) ≤ (j : Int) := by omega
          have hj1 : (j : Int) < (R : Int) := by omega
          have htt : t + 1 = m + (j + 1) := by omega
          rw [htt] at HS2
          clear hS2 HS HB HM hu hv htw hbw ht hb htN htb htt
          go_wp2_with fail
          go_region
          go_wp2_with fail
          go_roundw
          case rel => exact ⟨j + 1, _, by omega, by go_num, Lib.hid (HB2.out.keep rfl rfl), HS2, Lib.hid (HM2.out.trans ((Mod.refl _).drew))⟩
          case measure => simp [intOf]; omega
        · obtain rfl : j = R := by omega
          have HS2 : Hid (Swp ws ws' ((k + 1) * j)) := Lib.hid (by rw [HMK.out]; exact HS.out)
          go_wp2_with fail
          go_roundw
          case rel => exact ⟨k + 1, ws', by omega, by go_num, HB, HS2, HM⟩
          case measure => simp [intOf]; omega
    · obtain rfl : k = h2 := by omega
      go_upto_if 81 with (fail)
      go_cut [] (fun wx => ∃ ws', Hid (BM wx p g ws' W H) ∧ Hid (ws'.length = ws.length ∧ ∀ q, q < ws.length → nth ws' q = nth ws (ws.length - 1 - q)) ∧ Hid (Mod (fun b => b = g) w wx))
      case first =>
        by_cases hodd : H % 2 = 0
        · have q1 : (H : Int) % 2 = 0 := by omega
          have HALL : Hid (ws'.length = ws.length ∧ ∀ q, q < ws.length → nth ws' q = nth ws (ws.length - 1 - q)) := Lib.hid ⟨HS.out.1, fun q hq => HS.out.all (by
            have h1 := HLEN.out
            have h2' := HH2.out
            have e : k + k = H := by omega
            rw [h1, ← e, Nat.mul_add, Nat.mul_comm R k]; omega) hq⟩
          go_wp2_with fail
          go_meet
          case rel => exact ⟨ws', HB, HALL, HM⟩
        · have q1 : (H : Int) % 2 = 1 := by omega
          have hH2 : H = 2 * k + 1 := by have := HH2.out; omega
          obtain ⟨m, hm⟩ : ∃ m, m = k * R := ⟨_, rfl⟩
          have hml : m < 1000000 := by rw [hm]; exact Nat.lt_of_le_of_lt (Nat.mul_le_mul (show k ≤ 999 by omega) (show R ≤ 999 by omega)) (by decide)
          obtain ⟨N, hN⟩ : ∃ N, N = ws.length := ⟨_, rfl⟩
          have hNm : N = 2 * m + R := by
            have h1 := HLEN.out
            rw [hN, h1, hH2, Nat.mul_add, Nat.mul_one, Nat.mul_comm R (2 * k), Nat.mul_assoc, ← hm]
          obtain ⟨k2, hk2⟩ : ∃ k2, k2 = 2 * k := ⟨_, rfl⟩
          obtain ⟨m2, hm2⟩ : ∃ m2, m2 = 2 * m := ⟨_, rfl⟩
          have eH : (H : Int) - 1 = (k2 : Int) := by omega
          have eR : (R : Int) * (k2 : Int) = (m2 : Int) := by
            have e : R * k2 = m2 := by rw [hk2, hm2, hm, Nat.mul_comm R, Nat.mul_assoc]
            rw [← e]; simp
          have hw2 : IntKind.i64.wrap (m2 : Int) = (m2 : Int) := by rw [IntKind.wrap_i64]; omega
          have ed : (m2 : Int) / 2 = (m : Int) := by omega
          have ed2 : (m2 : Int).tdiv 2 = (m : Int) := by rw [Int.tdiv_eq_ediv_of_nonneg (by omega)]; exact ed
          have hwm : IntKind.i64.wrap (m : Int) = (m : Int) := by rw [IntKind.wrap_i64]; omega
          clear hk2 hm2
          obtain ⟨r2, hr2⟩ : ∃ r2, r2 = R / 2 := ⟨_, rfl⟩
          have er : (R : Int) / 2 = (r2 : Int) := by omega
          rw [← hm] at HS
          have HNN := Lib.hid hN
          have HNM := Lib.hid hNm
          have HR2 := Lib.hid hr2
          have hr2l : r2 ≤ R := by omega
          clear hm hN hNm hr2 hodd hH2
          go_wp2_with fail
          go_loopw [11] (fun i wr => ∃ (j : Nat) (ws' : List Nat), j ≤ r2 ∧ i = .int .i64 j ∧ Hid (BM wr p g ws' W H) ∧ Hid (Swp ws ws' (m + j)) ∧ Hid (Mod (fun b => b = g) w wr)) (fun i _ => r2 - (intOf i).toNat)
          case atStart => exact ⟨0, ws', by omega, rfl, HB, HS, HM⟩
          case round =>
            obtain ⟨j, ws', hj, rfl, HB, HS, HM⟩ := hrel
            by_cases hjl : j < r2
            · obtain ⟨t, ht⟩ : ∃ t, t = m + j := ⟨_, rfl⟩
              rw [← ht] at HS
              obtain ⟨b, hb⟩ : ∃ b, b = N - 1 - t := ⟨_, rfl⟩
              have hjl2 : 2 * j + 1 < R := by have := HR2.out; omega
              have htN : 2 * t + 1 < N := by have := HNM.out; omega
              have htb : t < b := by omega
              have htw : t < ws'.length := by rw [HS.out.1, ← HNN.out]; omega
              have hbw : b < ws'.length := by rw [HS.out.1, ← HNN.out]; omega
              have hbits := HB.out.bits
              rw [HS.out.1, ← HNN.out] at hbits
              have wt := HB.out.word htw
              have wb := HB.out.word hbw
              have ft := HB.out.free t
              have fb := HB.out.free b
              have xt := HB.out.lt _ (nth_mem htw)
              have xb := HB.out.lt _ (nth_mem hbw)
              have hS2 := HS.out.step (by rw [← HNN.out]; exact htN)
              rw [← HNN.out, ← hb] at hS2
              have HB2 := Lib.hid ((HB.out.set_ t _ xb).set_ b _ xt)
              have HS2 := Lib.hid hS2
              obtain ⟨u, hu⟩ : ∃ u, u = nth ws' t := ⟨_, rfl⟩
              obtain ⟨v, hv⟩ : ∃ v, v = nth ws' b := ⟨_, rfl⟩
              rw [← hu] at wt xt HB2 HS2
              rw [← hv] at wb xb HB2 HS2
              have HM2 := Lib.hid (HM.out.trans ((Mod.set1 wr g t (.int .u32 (v : Int))).trans (Mod.set1 _ g b (.int .u32 (u : Int)))))
              have et : (m : Int) + (j : Int) = (t : Int) := by omega
              have eb2 : (m : Int) + (R : Int) - 1 - (j : Int) = (b : Int) := by have := HNM.out; omega
              have t0 : (0 : Int) ≤ (t : Int) := by omega
              have t1 : (t : Int) < (N : Int) := by omega
              have b0 : (0 : Int) ≤ (b : Int) := by omega
              have b1 : (b : Int) < (N : Int) := by omega
              have ne1 : ¬ t = b := by omega
              have ne2 : ¬ b = t := by omega
              have hj0 : (0 : Int) ≤ (j : Int) := by omega
              have hj1 : (j : Int) < (r2 : Int) := by omega
              have htt : t + 1 = m + (j + 1) := by omega
              rw [htt] at HS2
              clear hS2 HS HB HM hu hv htw hbw ht hb htN htb htt
              go_wp2_with fail
              go_region
              go_wp2_with fail
              go_roundw
              case rel => exact ⟨j + 1, _, by omega, by go_num, Lib.hid (HB2.out.keep rfl rfl), HS2, Lib.hid (HM2.out.trans ((Mod.refl _).drew))⟩
              case measure => simp [intOf]; omega
            · obtain rfl : j = r2 := by omega
              have HALL : Hid (ws'.length = ws.length ∧ ∀ q, q < ws.length → nth ws' q = nth ws (ws.length - 1 - q)) := Lib.hid ⟨HS.out.1, fun q hq => HS.out.all (by
                have h1 := HNN.out
                have h2' := HNM.out
                have h3 := HR2.out
                omega) hq⟩
              go_wp2_with fail
              go_meet
              case rel => exact ⟨ws', HB, HALL, HM⟩
      case rest =>
        obtain ⟨ws', HB, HALL, HM⟩ := hcut
        clear HS
        obtain ⟨s, hs⟩ : ∃ s, s = W % 32 := ⟨_, rfl⟩
        have es : (W : Int) % 32 = (s : Int) := by omega
        have hs0 : 0 < s := by omega
        have hs32 : s < 32 := by omega
        have hsn : ((s : Int) != 0) = true := by simp; omega
        have hsb : (s : Int) < 32 := by omega
        have hsa : (0 : Int) ≤ (s : Int) := by omega
        have HSE := Lib.hid hs
        obtain ⟨t, ht⟩ : ∃ t, t = 32 - s := ⟨_, rfl⟩
        have et : (32 : Int) - (s : Int) = (t : Int) := by omega
        have ht0 : (0 : Int) ≤ (t : Int) := by omega
        have ht1 : (t : Int) < 32 := by omega
        have htm : min t 32 = t := by omega
        have hsm : min s 32 = s := by omega
        have hwt : IntKind.u64.wrap (t : Int) = (t : Int) := by rw [IntKind.wrap_u64]; omega
        have HTE := Lib.hid ht
        have hwid := HB.out.width
        clear hs hW32 ht
        go_wp2_with fail
        rw [es]
        clear hwid es
        go_loopw [15] (fun i wr => ∃ (k : Nat) (wk : List Nat), k ≤ H ∧ i = .int .i64 k ∧ Hid (BM wr p g wk W H) ∧ Hid (Shf ws' wk s R (k * R)) ∧ Hid (Mod (fun b => b = g) w wr)) (fun i _ => H - (intOf i).toNat)
        case atStart => exact ⟨0, ws', by omega, rfl, HB, Lib.hid (by rw [Nat.zero_mul]; exact Shf.zero _ _ _), HM⟩
        case round =>
          obtain ⟨k2, wk, hk2, rfl, HB, HS, HM⟩ := hrel
          by_cases hlt : k2 < H
          · obtain ⟨m, hm⟩ : ∃ m, m = k2 * R := ⟨_, rfl⟩
            have hml : m < 1000000 := by rw [hm]; exact Nat.lt_of_le_of_lt (Nat.mul_le_mul (show k2 ≤ 999 by omega) (show R ≤ 999 by omega)) (by decide)
            have hwm : IntKind.i64.wrap (m : Int) = (m : Int) := by rw [IntKind.wrap_i64]; omega
            have em : (R : Int) * (k2 : Int) = (m : Int) := by rw [hm, Nat.mul_comm]; simp
            obtain ⟨N, hN⟩ : ∃ N, N = ws'.length := ⟨_, rfl⟩
            have hNm : m + R ≤ N := by
              rw [hN, HALL.out.1, HLEN.out, hm, ← Nat.succ_mul, Nat.mul_comm R]
              exact Nat.mul_le_mul_right _ hlt
            have hR0 : 0 < R := by have := HRE.out; omega
            have hmk : (k2 + 1) * R = m + R := by rw [hm, Nat.succ_mul]
            have hmR : m % R = 0 := by rw [hm]; exact Nat.mul_mod_left _ _
            rw [← hm] at HS
            have hS1 := HS.out.row (by rw [← hN]; omega) hmR
            have hold := HS.out.old (by rw [← hN]; omega)
            have hmw : m < wk.length := by rw [HS.out.1, ← hN]; omega
            have hw := HB.out.word hmw
            have hx := HB.out.lt _ (nth_mem hmw)
            have hfree := HB.out.free m
            have hbits := HB.out.bits
            rw [HS.out.1, ← hN] at hbits
            rw [hold] at hw hx
            obtain ⟨v, hv⟩ : ∃ v, v = nth ws' m := ⟨_, rfl⟩
            rw [← hv] at hw hx hS1
            have hm0 : (0 : Int) ≤ (m : Int) := by omega
            have hm1 : (m : Int) < (N : Int) := by omega
            have hRW : Calls Try.prog 63 #[.int .u32 v] wr.drew (fun e w' => e = .returned (.int .u32 (rv v : Nat)) ∧ w' = wr.drew) := (rev_32 v hx wr.drew).mono (by rintro e w' ⟨h1, h2⟩; exact ⟨h1, h2.symm⟩)
            have HRV := Lib.hid hRW
            have hrl := rv_lt v
            obtain ⟨z, hz⟩ : ∃ z, z = rv v := ⟨_, rfl⟩
            rw [← hz] at HRV hrl
            have HS1 := Lib.hid hS1
            obtain ⟨h, hh⟩ : ∃ h, h = hf s v := ⟨_, rfl⟩
            have hhl := hf_lt s v
            rw [← hh] at HS1 hhl
            have HB1 := Lib.hid (HB.out.set_ m h hhl)
            unfold hf at hh
            rw [← hz, ← HTE.out] at hh
            have hsh : (z : Int) / 2 ^ t = (h : Int) := by rw [hh]; simp
            have HNN := Lib.hid hN
            have HNM := Lib.hid hNm
            have HMR := Lib.hid hmR
            have HMK := Lib.hid hmk
            clear hh hRW hm hN hNm hmR hmk hold hv hS1 hmw HS hz
            go_upto_region 27 with (fail)
            go_still_tail 17, (by kernel_rfl)
            still_call (HRV.out)
            repeat still_step
            try refine wpStill_nil ?_
            change wpList _ _ _ _ _ wr.drew
            go_wp2_with fail
            obtain ⟨W1, hW1⟩ : ∃ W1, W1 = (wr.setCell ⟨g, m, none⟩ (.int .u32 (h : Int))).drew := ⟨_, rfl⟩
            have HB2 : Hid (BM W1 p g (wk.set m h) W H) := Lib.hid (by rw [hW1]; exact HB1.out.keep rfl rfl)
            have HM2 : Hid (Mod (fun b => b = g) w W1) := Lib.hid (by rw [hW1]; exact (HM.out.trans (Mod.set1 wr g m (.int .u32 (h : Int)))).trans ((Mod.refl _).drew))
            rw [← hW1]
            clear hW1 HM HB1 hw hfree hbits hsh HRV
            go_loopw [17] (fun i wr => ∃ (j : Nat) (wk : List Nat), 0 < j ∧ j ≤ R ∧ i = .int .i64 j ∧ Hid (BM wr p g wk W H) ∧ Hid (Shf ws' wk s R (m + j)) ∧ Hid (Mod (fun b => b = g) w wr)) (fun i _ => R - (intOf i).toNat)
            case atStart => exact ⟨1, _, by omega, by omega, rfl, HB2, HS1, HM2⟩
            case round =>
              obtain ⟨j, wk, hj0, hj, rfl, HB, HS, HM⟩ := hrel
              clear HB2 HS1 HM2
              by_cases hjl : j < R
              · obtain ⟨n, hn⟩ : ∃ n, n = m + j - 1 := ⟨_, rfl⟩
                have hn1 : m + j = n + 1 := by omega
                have hnN : n + 1 < N := by have := HNM.out; omega
                have hnR : (n + 1) % R ≠ 0 := by
                  rw [← hn1, Nat.add_mod, HMR.out, Nat.zero_add, Nat.mod_mod, Nat.mod_eq_of_lt hjl]; omega
                rw [hn1] at HS
                have hS2 := HS.out.col (by rw [← HNN.out]; exact hnN) hnR
                have hold := HS.out.old (by rw [← HNN.out]; exact hnN)
                have hmw : n + 1 < wk.length := by rw [HS.out.1, ← HNN.out]; exact hnN
                have hw := HB.out.word hmw
                have hx := HB.out.lt _ (nth_mem hmw)
                have hw0 := HB.out.word (show n < wk.length by omega)
                have hx0 := HB.out.lt _ (nth_mem (show n < wk.length by omega))
                have hfree := HB.out.free (n + 1)
                have hfree0 := HB.out.free n
                have hbits := HB.out.bits
                rw [HS.out.1, ← HNN.out] at hbits
                rw [hold] at hw hx
                obtain ⟨v, hv⟩ : ∃ v, v = nth ws' (n + 1) := ⟨_, rfl⟩
                rw [← hv] at hw hx hS2
                obtain ⟨z, hz⟩ : ∃ z, z = rv v := ⟨_, rfl⟩
                have hrl := rv_lt v
                have HRV := Lib.hid (fun w => rev_32 v hx w)
                rw [← hz] at HRV hrl
                obtain ⟨h, hh⟩ : ∃ h, h = hf s v := ⟨_, rfl⟩
                have hhl := hf_lt s v
                rw [← hh] at hS2 hhl
                unfold hf at hh
                rw [← hz, ← HTE.out] at hh
                have hsh : (z : Int) / 2 ^ t = (h : Int) := by rw [hh]; simp
                obtain ⟨u, hu⟩ : ∃ u, u = up_ s v := ⟨_, rfl⟩
                have hul := up_lt s v
                rw [← hu] at hS2 hul
                unfold up_ at hu
                rw [← hz] at hu
                have hsu : (z : Int) * 2 ^ s % 4294967296 = (u : Int) := by rw [hu]; simp
                obtain ⟨a0, ha0⟩ : ∃ a0, a0 = nth wk n := ⟨_, rfl⟩
                rw [← ha0] at hw0 hx0 hS2
                have hor := u32_or a0 u hx0 hul
                have horl : a0 ||| u < 4294967296 := Nat.or_lt_two_pow (n := 32) hx0 hul
                obtain ⟨o, ho⟩ : ∃ o, o = a0 ||| u := ⟨_, rfl⟩
                rw [← ho] at hor horl hS2
                have HB2 := Lib.hid ((HB.out.set_ n o horl).set_ (n + 1) h hhl)
                have HS2 := Lib.hid hS2
                have HM2 := Lib.hid (HM.out.trans ((Mod.set1 wr g n (.int .u32 (o : Int))).trans (Mod.set1 _ g (n + 1) (.int .u32 (h : Int)))))
                obtain ⟨n1, hn1e⟩ : ∃ n1, n1 = n + 1 := ⟨_, rfl⟩
                rw [← hn1e] at hw hfree HB2 HS2 HM2
                have e1 : (m : Int) + (j : Int) = (n1 : Int) := by omega
                have e2 : (n1 : Int) - 1 = (n : Int) := by omega
                have hwn : IntKind.i64.wrap (n1 : Int) = (n1 : Int) := by rw [IntKind.wrap_i64]; have := HNM.out; omega
                have b0 : (0 : Int) ≤ (n : Int) := by omega
                have b1 : (n : Int) < (N : Int) := by omega
                have c0 : (0 : Int) ≤ (n1 : Int) := by omega
                have c1 : (n1 : Int) < (N : Int) := by omega
                have ne1 : ¬ n = n1 := by omega
                have ne2 : ¬ n1 = n := by omega
                have hjR : (j : Int) < (R : Int) := by omega
                have hpg : ¬ p = g := HB.out.ne
                have hgp : ¬ g = p := fun h => hpg h.symm
                have hnext : n1 + 1 = m + (j + 1) := by omega
                rw [hnext] at HS2
                clear hn hn1 hnR hS2 hold hmw HB HS HM hv hz hh hu ha0 ho hn1e hnN hnext
                go_wp2_with fail
                refine (HRV.out _).mono ?_
                rintro e w' ⟨rfl, rfl⟩
                go_wp2_with fail
                go_roundw
                case rel => exact ⟨j + 1, _, by omega, by omega, by go_num, HB2, HS2, HM2⟩
                case measure => simp [intOf]; omega
              · obtain rfl : j = R := by omega
                have HS2 : Hid (Shf ws' wk s j ((k2 + 1) * j)) := Lib.hid (by rw [HMK.out]; exact HS.out)
                go_wp2_with fail
                go_roundw
                case rel => exact ⟨k2 + 1, wk, by omega, by go_num, HB, HS2, HM⟩
                case measure => simp [intOf]; omega
          · obtain rfl : k2 = H := by omega
            have HF : Hid (∀ x y, x < W → y < k2 → mb wk W x y = mb ws W (W - 1 - x) (k2 - 1 - y)) := Lib.hid (fun x y hx hy => by
              have h2 := HS.out
              rw [HRE.out, HSE.out, Nat.mul_comm] at h2
              exact mb_half (by rw [← HSE.out]; omega) (by rw [HLEN.out, HRE.out]) HALL.out.1 HALL.out.2 h2 hx hy)
            go_wp2_with fail
            go_end0
            exact ⟨wk, rfl, HB, HF, HM⟩
end Go.Proofs.Ytcfcbcjaiplllaa
