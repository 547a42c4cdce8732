/-
  BitMatrix.Xor, walked. No condition beyond the bounds that each theorem states.
-/
import Derived.Test.YtcfcbcjaiplllaaBMX
import Derived.BigQuiet
namespace Go.Proofs.Ytcfcbcjaiplllaa
open Go.RowKit Go.Qz
set_option linter.unusedVariables false

/-- The words below n are the sums, the others as they were. -/
def XorUp (ws ms ws' : List Nat) (n : Nat) : Prop := ∀ q, q < ws.length → nth ws' q = if q < n then nth ws q ^^^ nth ms q else nth ws q
theorem XorUp.set_ {ws ms ws' : List Nat} {n : Nat} (h : XorUp ws ms ws' n) (hl : ws'.length = ws.length) (hn : n < ws.length) : XorUp ws ms (ws'.set n (nth ws n ^^^ nth ms n)) (n + 1) := by
  intro q hq
  rw [nth_set (by omega)]
  by_cases e : q = n
  · subst e; rw [if_pos rfl, if_pos (by omega)]
  · rw [if_neg e, h q hq]
    by_cases hqn : q < n
    · rw [if_pos hqn, if_pos (by omega)]
    · rw [if_neg hqn, if_neg (by omega)]
theorem XorUp.mb {ws ms ws' : List Nat} {W H : Nat} (h : XorUp ws ms ws' ws.length) (hl : ws.length = (W + 31) / 32 * H) {x y : Nat} (hx : x < W) (hy : y < H) : mb ws' W x y = (mb ws W x y != mb ms W x y) := by
  have := at_lt hx hy
  unfold Proofs.Ytcfcbcjaiplllaa.mb
  rw [h _ (by omega), if_pos (by omega), Nat.testBit_xor]

set_option maxRecDepth 100000 in
set_option maxHeartbeats 3200000 in
theorem bm_xor (p g p2 g2 W H : Nat) (ws ms : List Nat) (w : World) (h : BM w p g ws W H) (h2 : BM w p2 g2 ms W H) (hpg : p2 ≠ g) (hgg : g2 ≠ g) (hW : W < 1000) (hH : H < 1000) :
    Calls Try.prog 41 #[.pointer (some ⟨p, 0, none⟩), .pointer (some ⟨p2, 0, none⟩)] w fun e w' => ∃ ws', e = .returned .nilIface ∧ Hid (BM w' p g ws' W H) ∧ Hid (XorUp ws ms ws' ws.length) ∧ Hid (Mod (fun b => b = g) w w') := by
  have hwid := h.width
  have hhei := h.height
  have hrow := h.rowSize
  have hwid2 := h2.width
  have hhei2 := h2.height
  have hrow2 := h2.rowSize
  have HH := Lib.hid h
  have HH2 := Lib.hid h2
  have hlen := h.len
  obtain ⟨R, hRe⟩ : ∃ R, R = (W + 31) / 32 := ⟨_, rfl⟩
  have hR2 : R < 1000 := by omega
  rw [← hRe] at hrow hrow2 hlen
  have n1 : ((W : Int) != (W : Int)) = false := by simp
  have n2 : ((H : Int) != (H : Int)) = false := by simp
  have n3 : ((R : Int) != (R : Int)) = false := by simp
  have HLEN := Lib.hid hlen
  have HRE := Lib.hid hRe
  clear h h2 hRe hlen
  go_enter Try.func41, Try.ntmps41
  go_wp2_with fail
  go_quiet (fail)
  go_wp2_with fail
  have HX0 : Hid (XorUp ws ms ws 0) := Lib.hid (fun q hq => by rw [if_neg (by omega)])
  clear n1 n2 n3 hwid hwid2 hhei2 hrow hrow2 hhei
  go_loopw [5] (fun i wr => ∃ (k : Nat) (ws' : List Nat), k ≤ H ∧ i = .int .i64 k ∧ Hid (BM wr p g ws' W H) ∧ Hid (ws'.length = ws.length) ∧ Hid (XorUp ws ms ws' (k * R)) ∧ Hid (Mod (fun b => b = g) w wr)) (fun i _ => H - (intOf i).toNat)
  case atStart =>
    refine ⟨0, ws, by omega, rfl, Lib.hid (HH.out.mod (Mod.drewN (Mod.refl (S := fun _ => False) _) _) (fun h => h) (fun h => h)), Lib.hid rfl, ?_, Lib.hid (Mod.drewN (Mod.refl _) _)⟩
    rw [Nat.zero_mul]; exact HX0
  case round =>
    obtain ⟨k, ws', hk, rfl, HB, HLW, HX, HM⟩ := hrel
    clear HX0
    have hhei := HB.out.height
    by_cases hlt : k < H
    · have HMS := Lib.hid (HH2.out.mod HM.out hpg hgg)
      have hrow := HB.out.rowSize
      have hrow2 := HMS.out.rowSize
      rw [← HRE.out] at hrow hrow2
      obtain ⟨m, hm⟩ : ∃ m, m = k * R := ⟨_, rfl⟩
      have em : (k : Int) * (R : Int) = (m : Int) := by rw [hm]; simp
      have hml : m < 1000000 := by rw [hm]; exact Nat.lt_of_le_of_lt (Nat.mul_le_mul (show k ≤ 999 by omega) (show R ≤ 999 by omega)) (by decide)
      have hmn : m + R ≤ ws.length := by rw [HLEN.out, hm, Nat.mul_comm R H, ← Nat.succ_mul]; exact Nat.mul_le_mul_right _ hlt
      have hms : (k + 1) * R = m + R := by rw [hm, Nat.succ_mul]
      have hwm : IntKind.i64.wrap (m : Int) = (m : Int) := by rw [IntKind.wrap_i64]; omega
      rw [← hm] at HX
      have HMN := Lib.hid hmn
      have HMS1 := Lib.hid hms
      have hml2 : ms.length = ws.length := by rw [HMS.out.len, HLEN.out, HRE.out]
      have HML := Lib.hid hml2
      clear hm hmn hms hml2
      go_wp2_with fail
      clear hrow hrow2 hhei
      go_loopw [8] (fun i wr => ∃ (x : Nat) (ws' : List Nat), x ≤ R ∧ i = .int .i64 x ∧ Hid (BM wr p g ws' W H) ∧ Hid (ws'.length = ws.length) ∧ Hid (XorUp ws ms ws' (m + x)) ∧ Hid (Mod (fun b => b = g) w wr)) (fun i _ => R - (intOf i).toNat)
      case atStart => exact ⟨0, ws', by omega, rfl, HB, HLW, HX, HM⟩
      case round =>
        obtain ⟨x, ws', hx, rfl, HB, HLW, HX, HM⟩ := hrel
        have hrow := HB.out.rowSize
        rw [← HRE.out] at hrow
        by_cases hxl : x < R
        · obtain ⟨q, hq⟩ : ∃ q, q = m + x := ⟨_, rfl⟩
          rw [← hq] at HX
          have hqw : q < ws.length := by have := HMN.out; omega
          have hqw' : q < ws'.length := by rw [HLW.out]; exact hqw
          have hqm' : q < ms.length := by rw [HML.out]; exact hqw
          have HMS2 := HH2.out.mod HM.out hpg hgg
          have hbits := HB.out.bits
          have hfree := HB.out.free q
          have hbits2 := HMS2.bits
          have hw := HB.out.word hqw'
          have hwx := HB.out.lt _ (nth_mem hqw')
          have hw2 := HMS2.word hqm'
          have hwx2 := HMS2.lt _ (nth_mem hqm')
          have hval : nth ws' q = nth ws q := by rw [HX.out q hqw, if_neg (by omega)]
          rw [hval] at hw hwx
          have e4 := u32_xor _ _ hwx hwx2
          have hor : nth ws q ^^^ nth ms q < 4294967296 := by have := Nat.xor_lt_two_pow (n := 32) (show nth ws q < 2 ^ 32 from hwx) (show nth ms q < 2 ^ 32 from hwx2); omega
          have HX2 := Lib.hid (HX.out.set_ HLW.out hqw)
          have HB2 := Lib.hid (HB.out.set_ q (nth ws q ^^^ nth ms q) hor)
          have HM2 := Lib.hid (HM.out.trans ((Mod.set1 wr g q (.int .u32 ((nth ws q ^^^ nth ms q : Nat) : Int)))))
          have HL2 : Hid ((ws'.set q (nth ws q ^^^ nth ms q)).length = ws.length) := Lib.hid (by rw [List.length_set]; exact HLW.out)
          rw [HLW.out] at hbits
          rw [HML.out] at hbits2
          have eq1 : (m : Int) + (x : Int) = (q : Int) := by omega
          have hq1 : q + 1 = m + (x + 1) := by omega
          rw [hq1] at HX2
          have hq0 : (0 : Int) ≤ (q : Int) := by omega
          have hqN : (q : Int) < (ws.length : Int) := by omega
          have hqb : q < 2000000 := by omega
          have hwq : IntKind.i64.wrap (q : Int) = (q : Int) := by rw [IntKind.wrap_i64]; omega
          have hx0 : (0 : Int) ≤ (x : Int) := by omega
          have hx1 : (x : Int) < (R : Int) := by omega
          clear HB HX HM HLW hval hor hqw hqw' hqm' HMS2 hq hq1
          obtain ⟨y, hy⟩ : ∃ y, y = nth ws q ^^^ nth ms q := ⟨_, rfl⟩
          rw [← hy] at e4 HB2 HX2 HM2 HL2
          obtain ⟨u, hu⟩ : ∃ u, u = nth ws q := ⟨_, rfl⟩
          rw [← hu] at e4 hw hwx
          obtain ⟨v, hv⟩ : ∃ v, v = nth ms q := ⟨_, rfl⟩
          rw [← hv] at e4 hw2 hwx2
          clear hy hu hv
          obtain ⟨N, hN⟩ : ∃ N, N = ws.length := ⟨_, rfl⟩
          rw [← hN] at hqN hbits hbits2
          clear hN
          go_wp2_with fail
          go_region
          go_wp2_with fail
          go_roundw
          case rel => exact ⟨x + 1, _, by omega, by go_num, Lib.hid (HB2.out.keep rfl rfl), HL2, HX2, Lib.hid (HM2.out.trans ((Mod.refl _).drew))⟩
          case measure => simp [intOf]; omega
        · obtain rfl : x = R := by omega
          have HX3 : Hid (XorUp ws ms ws' ((k + 1) * x)) := Lib.hid (by rw [HMS1.out]; exact HX.out)
          go_wp2_with fail
          go_roundw
          case rel => exact ⟨k + 1, ws', by omega, by go_num, HB, HLW, HX3, HM⟩
          case measure => simp [intOf]; omega
    · obtain rfl : k = H := by omega
      have HX2 : Hid (XorUp ws ms ws' ws.length) := Lib.hid (by rw [HLEN.out, Nat.mul_comm]; exact HX.out)
      go_wp2_with fail
      go_ret
      exact ⟨ws', rfl, HB, HX2, HM⟩
end Go.Proofs.Ytcfcbcjaiplllaa
