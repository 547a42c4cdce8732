/-
  BitSource, walked: ReadBits. No condition beyond the bounds that the theorem states.
-/
import Derived.Test.YthkiajighmhdoaaBIS2
import Derived.BigRegion
import Derived.Deep.RegionLaw
import Derived.Deep.QuietTactic
import Derived.BigQuiet
namespace Go.Proofs.Ythkiajighmhdoaa
open Go.RowKit Go.Qz Go.Qz.BS
set_option linter.unusedVariables false

set_option maxRecDepth 1000000 in
theorem and255 : ∀ b : Nat, b < 256 → bits .and .u8 (b : Int) 255 = (b : Int) := by decide +kernel
theorem or_byte (x b : Nat) (hb : b < 256) : x * 256 ||| b = x * 256 + b := by
  have := Nat.shiftLeft_add_eq_or_of_lt (b := b) (i := 8) (by omega) x
  rw [Nat.shiftLeft_eq] at this
  exact this.symm

set_option maxRecDepth 1000000 in
theorem first_maskK : ∀ o, o < 8 → ∀ t, t < 9 → o + t ≤ 8 → (255 / 2 ^ (8 - t) * 2 ^ (8 - o - t) % 256 : Int) = ((255 / 2 ^ (8 - t) * 2 ^ (8 - o - t) % 256 : Nat) : Int) ∧ ∀ b : Nat, b < 256 → bits .and .u8 (b : Int) ((255 / 2 ^ (8 - t) * 2 ^ (8 - o - t) % 256 : Nat) : Int) = ((b &&& (255 / 2 ^ (8 - t) * 2 ^ (8 - o - t) % 256) : Nat) : Int) ∧ (b &&& (255 / 2 ^ (8 - t) * 2 ^ (8 - o - t) % 256)) < 256 ∧ ((b &&& (255 / 2 ^ (8 - t) * 2 ^ (8 - o - t) % 256) : Nat) : Int) / 2 ^ (8 - o - t) = ((b / 2 ^ (8 - o - t) % 2 ^ t : Nat) : Int) := by decide +kernel
/-- The mask of a part of a byte. -/
theorem first_maskM (o t : Nat) (h : o + t ≤ 8) : ∃ M : Nat, (255 / 2 ^ (8 - t) * 2 ^ (8 - o - t) % 256 : Int) = (M : Int) ∧ M < 256 ∧ ∀ b : Nat, b < 256 → ∃ y : Nat, bits .and .u8 (b : Int) (M : Int) = (y : Int) ∧ y < 256 ∧ (y : Int) / 2 ^ (8 - o - t) = ((b / 2 ^ (8 - o - t) % 2 ^ t : Nat) : Int) := by
  by_cases ho : o < 8
  · obtain ⟨h1, h2⟩ := first_maskK o ho t (by omega) h
    exact ⟨_, h1, Nat.mod_lt _ (by omega), fun b hb => ⟨_, h2 b hb⟩⟩
  · have : t = 0 := by omega
    subst this
    have : o = 8 := by omega
    subst this
    exact ⟨0, by decide, by omega, fun b hb => ⟨0, (by decide +kernel : ∀ b : Nat, b < 256 → bits .and .u8 (b : Int) ((0 : Nat) : Int) = ((0 : Nat) : Int)) b hb, by omega, by simp [Nat.mod_one]⟩⟩

def RBPost (B : List Nat) (p : Nat) (A : Option Addr) (c P k : Nat) (w : World) (e : Ending) (w' : World) : Prop :=
  e = .returned (.tuple #[.int .i64 (num B P k : Nat), .nilIface]) ∧ SrcAt w' p A B.length c ((P + k) / 8) ((P + k) % 8) ∧ Mod (· = p) w w'

set_option maxRecDepth 100000 in
set_option maxHeartbeats 6400000 in
theorem readBits (B : List Nat) (p : Nat) (A : Option Addr) (c P k : Nat) (hk1 : 1 ≤ k) (hk : k ≤ 32) (hP : P + k ≤ 8 * B.length) (hB : ∀ j, nth B j < 256) (hn : B.length < 1000000) (w : World) (h : SrcAt w p A B.length c (P / 8) (P % 8)) (hA : Rd w A B.length (fun j => .int .u8 (nth B j : Nat))) (hAp : ∀ a, A = some a → a.block ≠ p) :
    Calls Try.prog 53 #[.pointer (some ⟨p, 0, none⟩), .int .i64 k] w (RBPost B p A c P k w) := by
  obtain ⟨bo, hbo⟩ : ∃ bo, bo = P / 8 := ⟨_, rfl⟩
  obtain ⟨o, ho⟩ : ∃ o, o = P % 8 := ⟨_, rfl⟩
  rw [← hbo, ← ho] at h
  obtain ⟨n, hnn⟩ : ∃ n, n = B.length := ⟨_, rfl⟩
  rw [← hnn] at h hA hP hn
  have ho8 : o < 8 := by omega
  have hPo : P = 8 * bo + o := by omega
  obtain ⟨m, hm⟩ : ∃ m, m = 8 * n - P := ⟨_, rfl⟩
  have HAV := available p A n c bo o m (by omega) hn w h
  have hkm : (k : Int) ≤ (m : Int) := by omega
  obtain ⟨ab, ao, hAe, hab, hac⟩ := hA (by omega)
  subst hAe
  have hpa : ab ≠ p := hAp _ rfl
  obtain ⟨d0, d1, d2⟩ := h.cells
  have HAV2 := Lib.hid HAV
  clear HAV
  have HS := Lib.hid h
  have HC := Lib.hid hac
  have HBB := Lib.hid hB
  have HPO := Lib.hid hPo
  have HPK := Lib.hid hP
  have HNN := Lib.hid hnn
  clear h hac hB hPo hP hnn hm hbo ho hA hAp
  go_enter Try.func53, Try.ntmps53
  go_upto_if 30 with (fail)
  refine HAV2.out.mono ?_
  rintro e w1 ⟨rfl, k1, rfl⟩
  have HS1 : Hid (SrcAt (w.drewN k1) p (some ⟨ab, ao, none⟩) n c bo o) := Lib.hid HS.out
  have HC1 : Hid (∀ j, j < n → (w.drewN k1).cell? ⟨ab, ao + j, none⟩ = some (.int .u8 (nth B j : Nat))) := Lib.hid HC.out
  have HM1 := Lib.hid ((Mod.refl (S := (· = p)) w).drewN k1)
  have hab1 : ab < (w.drewN k1).heap.size := hab
  obtain ⟨W1, hW1⟩ : ∃ W1, W1 = w.drewN k1 := ⟨_, rfl⟩
  rw [← hW1] at HS1 HC1 HM1 hab1 ⊢
  clear hW1 d0 d1 d2 HAV2 HS
  obtain ⟨e0, e1, e2⟩ := HS1.out.cells
  go_upto_if 30 with (fail)
  go_cut [1, 6] (fun kk r wr => ∃ (t x u : Nat), t + u = k ∧ (u = 0 ∨ (P + t) % 8 = 0) ∧ kk = .int .i64 u ∧ r = .int .i64 x ∧ Hid (x = num B P t) ∧ Hid (SrcAt wr p (some ⟨ab, ao, none⟩) n c ((P + t) / 8) ((P + t) % 8)) ∧ Hid (Mod (· = p) w wr))
  case first =>
    by_cases h0 : o = 0
    · subst h0
      go_wp2_with fail
      go_meet
      case rel => exact ⟨0, 0, k, by omega, .inr (by have := HPO.out; omega), rfl, rfl, Lib.hid rfl, Lib.hid (by rw [Nat.add_zero, show P / 8 = bo by have := HPO.out; omega, show P % 8 = 0 by have := HPO.out; omega]; exact HS1.out), HM1⟩
    · obtain ⟨l, hl⟩ : ∃ l, l = 8 - o := ⟨_, rfl⟩
      have ho1 : (0 : Int) < (o : Int) := by omega
      have hw1 : IntKind.i64.wrap (8 - (o : Int)) = (l : Int) := by rw [IntKind.wrap_i64]; omega
      have hw1' : (8 : Int) - (o : Int) = (l : Int) := by omega
      have HL := Lib.hid hl
      clear hl
      have hll : l ≤ 7 := by have := HL.out; omega
      have hyn : bo < n := by have := HPK.out; have := HPO.out; omega
      have hyn1 : (bo : Int) < (n : Int) := by omega
      have hy0 : (0 : Int) ≤ (bo : Int) := by omega
      have hcb := HC1.out bo hyn
      have hbl := HBB.out bo
      by_cases hkl : k < l
      · have hkl1 : (k : Int) < (l : Int) := by omega
        obtain ⟨s, hs⟩ : ∃ s, s = l - k := ⟨_, rfl⟩
        obtain ⟨a, ha⟩ : ∃ a, a = 8 - k := ⟨_, rfl⟩
        have hs1 : (l : Int) - (k : Int) = (s : Int) := by omega
        have ha1 : (8 : Int) - (k : Int) = (a : Int) := by omega
        have hsl : s ≤ 8 := by omega
        have hal : a ≤ 8 := by omega
        have HSA := Lib.hid (And.intro hs ha)
        clear hs ha
        have hM := first_maskM o k (by have := HL.out; omega)
        rw [show 8 - k = a from HSA.out.2.symm, show 8 - o - k = s by have := HSA.out; have := HL.out; omega] at hM
        obtain ⟨M, hM1, hM2, hM3⟩ := hM
        obtain ⟨bm, hbm1, hbm2, hbm3⟩ := hM3 (nth B bo) hbl
        have hri := num_in B P k (by have := HPO.out; omega)
        rw [show 8 - P % 8 - k = s by have := HSA.out; have := HL.out; have := HPO.out; omega, show P / 8 = bo by have := HPO.out; omega] at hri
        rw [← hri] at hbm3
        obtain ⟨x, hx⟩ : ∃ x, x = num B P k := ⟨_, rfl⟩
        obtain ⟨b, hb⟩ : ∃ b, b = nth B bo := ⟨_, rfl⟩
        rw [← hx] at hbm3
        rw [← hb] at hcb hbl hbm1
        have HX := Lib.hid hx
        obtain ⟨q, hq⟩ : ∃ q, q = o + k := ⟨_, rfl⟩
        have hq1 : (o : Int) + (k : Int) = (q : Int) := by omega
        have hq8 : ((q : Int) == 8) = false := by simp; have := HL.out; omega
        have hfr2 := HS1.out.free 2
        have HQ := Lib.hid hq
        have HS3 : Hid (SrcAt (W1.setCell ⟨p, 2, none⟩ (.int .i64 (q : Nat))) p (some ⟨ab, ao, none⟩) n c bo q) := Lib.hid ((show Arr W1 146 p _ from HS1.out).set_ 2 _)
        have HM3 := Lib.hid (HM1.out.setCell (p := ⟨p, 2, none⟩) (.inl rfl) (.int .i64 (q : Nat)))
        clear hx hri hb hM3 hq
        go_wp2_with fail
        rw [hM1]
        clear hM1
        go_quiet (fail)
        go_wp2_with fail
        go_meet
        case rel => exact ⟨k, x, 0, by omega, .inl rfl, rfl, rfl, HX, Lib.hid (by rw [show (P + k) / 8 = bo by have := HPO.out; have := HL.out; omega, show (P + k) % 8 = q by have := HPO.out; have := HL.out; have := HQ.out; omega]; exact HS3.out), Lib.hid (HM3.out.drewN _)⟩
      · obtain ⟨u, hu⟩ : ∃ u, u = k - l := ⟨_, rfl⟩
        have hkl1 : (l : Int) ≤ (k : Int) := by omega
        have hu1 : (k : Int) - (l : Int) = (u : Int) := by omega
        have ho2 : (8 : Int) - (l : Int) = (o : Int) := by have := HL.out; omega
        have hM := first_maskM o l (by have := HL.out; omega)
        rw [show 8 - l = o by have := HL.out; omega, show 8 - o - l = 0 by have := HL.out; omega] at hM
        obtain ⟨M, hM1, hM2, hM3⟩ := hM
        obtain ⟨bm, hbm1, hbm2, hbm3⟩ := hM3 (nth B bo) hbl
        have hri := num_in B P l (by have := HPO.out; have := HL.out; omega)
        rw [show 8 - P % 8 - l = 0 by have := HL.out; have := HPO.out; omega, show P / 8 = bo by have := HPO.out; omega] at hri
        rw [← hri] at hbm3
        obtain ⟨x, hx⟩ : ∃ x, x = num B P l := ⟨_, rfl⟩
        obtain ⟨b, hb⟩ : ∃ b, b = nth B bo := ⟨_, rfl⟩
        rw [← hx] at hbm3
        rw [← hb] at hcb hbl hbm1
        have HX := Lib.hid hx
        have hq1 : (o : Int) + (l : Int) = 8 := by have := HL.out; omega
        have hfr1 := HS1.out.free 1
        have hfr2 := HS1.out.free 2
        have HU := Lib.hid hu
        rw [Int.pow_zero, Int.mul_one] at hM1
        rw [Int.pow_zero, Int.ediv_one] at hbm3
        have hbx : bm = x := by omega
        subst hbx
        have HS3 : Hid (SrcAt (((W1.setCell ⟨p, 2, none⟩ (.int .i64 8)).setCell ⟨p, 2, none⟩ (.int .i64 0)).setCell ⟨p, 1, none⟩ (.int .i64 ((bo + 1 : Nat) : Int))) p (some ⟨ab, ao, none⟩) n c (bo + 1) 0) := Lib.hid ((((show Arr W1 146 p _ from HS1.out).set_ 2 _).set_ 2 _).set_ 1 _)
        have HM3 := Lib.hid (((HM1.out.setCell (p := ⟨p, 2, none⟩) (.inl rfl) (.int .i64 8)).setCell (p := ⟨p, 2, none⟩) (.inl rfl) (.int .i64 0)).setCell (p := ⟨p, 1, none⟩) (.inl rfl) (.int .i64 ((bo + 1 : Nat) : Int)))
        have hbo : IntKind.i64.wrap ((bo : Int) + 1) = ((bo + 1 : Nat) : Int) := by rw [IntKind.wrap_i64]; omega
        clear hx hri hb hM3 hu hbm3
        go_wp2_with fail
        rw [hM1]
        clear hM1
        go_quiet (fail)
        go_wp2_with fail
        go_meet
        case rel => exact ⟨l, bm, u, by have := HU.out; omega, .inr (by have := HPO.out; have := HL.out; omega), rfl, rfl, HX, Lib.hid (by rw [show (P + l) / 8 = bo + 1 by have := HPO.out; have := HL.out; omega, show (P + l) % 8 = 0 by have := HPO.out; have := HL.out; omega]; exact HS3.out), Lib.hid (HM3.out.drewN _)⟩
  case rest =>
    obtain ⟨t, x0, u0, htu, hor, rfl, rfl, HX0, HS0, HM0⟩ := hcut
    clear e0 e1 e2 HS1 HM1 HC1
    by_cases hu0 : u0 = 0
    · subst hu0
      have htk : t = k := by omega
      subst htk
      go_wp2_with fail
      go_ret2
      refine ⟨?_, ?_, HM0.out⟩
      · rw [HX0.out]; rfl
      · rw [← HNN.out]; exact HS0.out
    · have hu0p : (0 : Int) < (u0 : Int) := by omega
      have hQ0 : (P + t) % 8 = 0 := by omega
      rw [hQ0] at HS0
      obtain ⟨Q0, hQe⟩ : ∃ Q0, Q0 = P + t := ⟨_, rfl⟩
      have HQE := Lib.hid (And.intro hQe htu)
      rw [← hQe] at HS0 hQ0
      have hx0 : Hid (x0 = num B P (Q0 - P)) := Lib.hid (by rw [hQe, Nat.add_sub_cancel_left]; exact HX0.out)
      have hu0k : u0 ≤ 32 := by omega
      clear hor hQe htu HX0
      go_wp2_with fail
      go_loopw [1, 6] (fun kk r wr => ∃ (Q u x : Nat), Q % 8 = 0 ∧ P ≤ Q ∧ Q + u = P + k ∧ kk = .int .i64 u ∧ r = .int .i64 x ∧ Hid (x = num B P (Q - P)) ∧ Hid (SrcAt wr p (some ⟨ab, ao, none⟩) n c (Q / 8) 0) ∧ Hid (Mod (· = p) w wr)) (fun kk _ _ => (intOf kk).toNat)
      case atStart => exact ⟨Q0, u0, x0, hQ0, by have := HQE.out; omega, by have := HQE.out; omega, rfl, rfl, hx0, HS0, HM0⟩
      case round =>
        obtain ⟨Q, u, x, hQ8, hPQ, hQu, rfl, rfl, HX, HS2, HM2⟩ := hrel
        clear HS0 HM0 hx0
        obtain ⟨y, hy⟩ : ∃ y, y = Q / 8 := ⟨_, rfl⟩
        rw [← hy] at HS2
        obtain ⟨e0, e1, e2⟩ := HS2.out.cells
        have hfr := HS2.out.free 1
        have hfr2 := HS2.out.free 2
        by_cases hu : 8 ≤ u
        · have hu1 : (8 : Int) ≤ (u : Int) := by omega
          have hyn : y < n := by have := HPK.out; omega
          have hyn1 : (y : Int) < (n : Int) := by omega
          have hy0 : (0 : Int) ≤ (y : Int) := by omega
          have hcb : wr.cell? ⟨ab, ao + y, none⟩ = some (.int .u8 (nth B y : Nat)) := by
            rw [← HC.out y hyn]
            exact World.cell?_of_block (w := w) (HM2.out.block ab hab hpa)
          have hbl := HBB.out y
          have hnb := num_byte B P (Q - P) (by omega) (by rw [show P + (Q - P) = Q by omega, ← hy]; exact hbl)
          rw [show P + (Q - P) = Q by omega, ← hy, ← HX.out] at hnb
          have hxl : x < 16777216 := by
            have h1 := num_lt B P (Q - P)
            have h2 : 2 ^ (Q - P) ≤ 2 ^ 24 := Nat.pow_le_pow_right (by omega) (by omega)
            rw [← HX.out] at h1
            have : (2 : Nat) ^ 24 = 16777216 := rfl
            omega
          obtain ⟨b, hb⟩ : ∃ b, b = nth B y := ⟨_, rfl⟩
          rw [← hb] at hcb hbl hnb
          have HNB := Lib.hid hnb
          have HQ := Lib.hid (And.intro hQ8 (And.intro hPQ hQu))
          have HYY := Lib.hid hy
          clear hb hnb hQ8 hPQ hQu hy
          have hand := and255 b hbl
          have hor := i64_or (x * 256) b (by omega) (by omega)
          rw [or_byte x b hbl] at hor
          obtain ⟨x2, hx2⟩ : ∃ x2, x2 = x * 256 + b := ⟨_, rfl⟩
          rw [← hx2] at hor HNB
          have hor2 : bits .or .i64 ((x : Int) * 256) (b : Int) = (x2 : Int) := by rw [← hor]; congr 1
          obtain ⟨u2, hu2⟩ : ∃ u2, u2 = u - 8 := ⟨_, rfl⟩
          have hwu : IntKind.i64.wrap ((u : Int) - 8) = (u2 : Int) := by have := HQ.out; rw [IntKind.wrap_i64]; omega
          have HU2 := Lib.hid hu2
          clear hor hx2 hu2
          go_wp2_with fail
          go_quiet (fail)
          have g1 : (wr.drewN nq).cell? ⟨p, 1, none⟩ = some (.int .i64 y) := e1
          have gf : (wr.drewN nq).frozen? ⟨p, 1, none⟩ = false := hfr
          have HS3 : Hid (SrcAt ((wr.drewN nq).setCell ⟨p, 1, none⟩ (.int .i64 ((y + 1 : Nat) : Int))) p (some ⟨ab, ao, none⟩) n c (y + 1) 0) := Lib.hid ((show Arr (wr.drewN nq) 146 p _ from HS2.out).set_ 1 _)
          have HM3 := Lib.hid ((HM2.out.drewN nq).setCell (p := ⟨p, 1, none⟩) (.inl rfl) (.int .i64 ((y + 1 : Nat) : Int)))
          obtain ⟨W2, hW2⟩ : ∃ W2, W2 = wr.drewN nq := ⟨_, rfl⟩
          rw [← hW2] at g1 gf HS3 HM3 ⊢
          clear hW2 e0 e1 e2 hfr hfr2 hcb HS2 HM2
          go_wp2_with fail
          go_roundw
          case rel => exact ⟨Q + 8, u2, x2, by have := HQ.out; omega, by have := HQ.out; omega, by have := HQ.out; have := HU2.out; omega, by go_num, rfl, Lib.hid (by rw [← HNB.out]; congr 1; have := HQ.out; omega), Lib.hid (by rw [show (Q + 8) / 8 = y + 1 by have := HYY.out; omega]; exact HS3.out), HM3⟩
          case measure => have := HU2.out; simp [intOf]; omega
        · have hu1 : (u : Int) < 8 := by omega
          by_cases hu0 : u = 0
          · subst hu0
            have HPK2 : Hid (Q = P + k) := Lib.hid (by omega)
            go_wp2_with fail
            go_ret2
            refine ⟨?_, ?_, HM2.out⟩
            · rw [HX.out, show Q - P = k by have := HPK2.out; omega]; rfl
            · rw [← HPK2.out, hQ8, ← hy, ← HNN.out]; exact HS2.out
          · have hup : (0 : Int) < (u : Int) := by omega
            have hyn : y < n := by have := HPK.out; omega
            have hyn1 : (y : Int) < (n : Int) := by omega
            have hy0 : (0 : Int) ≤ (y : Int) := by omega
            have hcb : wr.cell? ⟨ab, ao + y, none⟩ = some (.int .u8 (nth B y : Nat)) := by
              rw [← HC.out y hyn]
              exact World.cell?_of_block (w := w) (HM2.out.block ab hab hpa)
            have hbl := HBB.out y
            have hxl : x * 2 ^ u < 2 ^ 32 := by
              have h1 := num_lt B P (Q - P)
              rw [← HX.out] at h1
              have h2 : 2 ^ (Q - P) * 2 ^ u ≤ 2 ^ 32 := by rw [← Nat.pow_add]; exact Nat.pow_le_pow_right (by omega) (by omega)
              have h3 : x * 2 ^ u < 2 ^ (Q - P) * 2 ^ u := Nat.mul_lt_mul_of_pos_right h1 (Nat.pow_pos (by omega))
              omega
            obtain ⟨a, ha⟩ : ∃ a, a = 8 - u := ⟨_, rfl⟩
            have ha1 : (8 : Int) - (u : Int) = (a : Int) := by omega
            have hal : a ≤ 8 := by omega
            have hM := first_maskM 0 u (by omega)
            rw [Nat.sub_zero, ← ha] at hM
            obtain ⟨M, hM1, hM2, hM3⟩ := hM
            obtain ⟨bm, hbm1, hbm2, hbm3⟩ := hM3 (nth B y) hbl
            have hri := num_in B Q u (by omega)
            rw [show 8 - Q % 8 - u = a by omega, ← hy] at hri
            rw [← hri] at hbm3
            have hvl := num_lt B Q u
            have hvl2 : num B Q u < 256 := by have : 2 ^ u ≤ 2 ^ 8 := Nat.pow_le_pow_right (by omega) (by omega); omega
            have hna := num_add B P (Q - P) u
            rw [show P + (Q - P) = Q by omega, ← HX.out] at hna
            have hor := i64_or (x * 2 ^ u) (num B Q u) (by omega) (by have : 2 ^ u ≤ 2 ^ 8 := Nat.pow_le_pow_right (by omega) (by omega); omega)
            rw [Nat.mul_comm x, ← Nat.two_pow_add_eq_or_of_lt hvl, Nat.mul_comm, ← hna] at hor
            obtain ⟨v, hv⟩ : ∃ v, v = num B Q u := ⟨_, rfl⟩
            obtain ⟨x2, hx2⟩ : ∃ x2, x2 = num B P (Q - P + u) := ⟨_, rfl⟩
            obtain ⟨xs, hxs⟩ : ∃ xs, xs = x * 2 ^ u := ⟨_, rfl⟩
            obtain ⟨b, hb⟩ : ∃ b, b = nth B y := ⟨_, rfl⟩
            rw [← hv, ← hx2, ← hxs] at hor
            rw [← hv] at hbm3 hvl2
            rw [← hb] at hcb hbl hbm1
            have hxe : (x : Int) * 2 ^ u = (xs : Int) := by rw [hxs]; simp
            have hxw : IntKind.i64.wrap ((x : Int) * 2 ^ u) = (xs : Int) := by rw [hxe, IntKind.wrap_i64]; omega
            have hxl2 : xs < 4294967296 := by omega
            have HX2 := Lib.hid hx2
            have HQ := Lib.hid (And.intro hQ8 (And.intro hPQ hQu))
            have HYY := Lib.hid hy
            have HS3 : Hid (SrcAt (wr.setCell ⟨p, 2, none⟩ (.int .i64 (u : Nat))) p (some ⟨ab, ao, none⟩) n c y u) := Lib.hid ((show Arr wr 146 p _ from HS2.out).set_ 2 _)
            have HM3 := Lib.hid (HM2.out.setCell (p := ⟨p, 2, none⟩) (.inl rfl) (.int .i64 (u : Nat)))
            clear hri hna hvl hv hx2 hxs hb ha hM3 hxl hQ8 hPQ hQu hy HM2
            go_wp2_with fail
            rw [hM1]
            clear hM1
            go_quiet (fail)
            go_wp2_with fail
            go_ret2
            refine ⟨?_, ?_, HM3.out.drewN _⟩
            · rw [show num B P k = x2 by rw [HX2.out]; congr 1; have := HQ.out; omega]; rfl
            · rw [← HNN.out, show (P + k) / 8 = y by have := HQ.out; have := HYY.out; omega, show (P + k) % 8 = u by have := HQ.out; omega]
              exact HS3.out
end Go.Proofs.Ythkiajighmhdoaa
