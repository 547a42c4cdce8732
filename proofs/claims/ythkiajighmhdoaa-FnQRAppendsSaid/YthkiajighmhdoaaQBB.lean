/-
  Numeric segments read, walked. No condition beyond the bounds that each theorem states.
-/
import Derived.Test.YthkiajighmhdoaaQBA
namespace Go.Proofs.Ythkiajighmhdoaa
open Go.RowKit Go.Qz Go.Qz.BS Go.Qz.QA
set_option linter.unusedVariables false

/-- What a segment's reader leaves. -/
def SegQ (B : List Nat) (S rest : List Bool) (p : Nat) (A : Option Addr) (c : Nat) (v : Value) (R : List Nat) (w : World) (e : Ending) (w' : World) : Prop :=
  ∃ (P : Nat) (v' : Value), e = .returned (.tuple #[v', .nilIface]) ∧ Hid (QSt B p A c P v' R w') ∧ Hid (Stay w w' p v v') ∧ Hid (S.drop P = rest)
def isDg (T : List Nat) : Prop := ∀ y ∈ T, 48 ≤ y ∧ y ≤ 57
set_option maxRecDepth 100000 in
set_option maxHeartbeats 12800000 in
theorem numericSeg (B : List Nat) (S rest : List Bool) (hB : B = by8 S) (hBn : B.length < 1000000) (hr : 8 ≤ rest.length) (p : Nat) (A : Option Addr) (c P : Nat) (v : Value) (R T : List Nat) (hT : isDg T) (hRT : (R ++ T).length ≤ 10000) (hS : S.drop P = dat 1 T ++ rest) (w : World) (h : QSt B p A c P v R w) :
    Calls Try.prog 60 #[.pointer (some ⟨p, 0, none⟩), v, .int .i64 T.length] w (SegQ B S rest p A c v (R ++ T) w) := by
  have HBE := Lib.hid hB
  have HBN := Lib.hid hBn
  have HR := Lib.hid hr
  have HT := Lib.hid hT
  have HRT := Lib.hid hRT
  have HS := Lib.hid hS
  have HQ := Lib.hid h
  obtain ⟨L, hL⟩ : ∃ L, L = R ++ T := ⟨_, rfl⟩
  rw [← hL] at HRT ⊢
  have HLR := Lib.hid hL.symm
  obtain ⟨t, ht⟩ : ∃ t, t = T.length := ⟨_, rfl⟩
  rw [← ht]
  have HTL := Lib.hid ht
  have hneq : ∀ W, (binOp .neq 60 .nilIface .nilIface).run Try.prog W = .ok (.bool false) W := fun W => rfl
  clear hB hBn hr hT hRT hS h hL ht
  go_enter Try.func60, Try.ntmps60
  go_wp2_with fail
  go_loopw [1, 2] (fun x k wr => ∃ (t P : Nat) (R T : List Nat), k = .int .i64 t ∧ Hid (t = T.length) ∧ Hid (isDg T) ∧ Hid (R ++ T = L) ∧ Hid (QSt B p A c P x R wr) ∧ Hid (Stay w wr p v x) ∧ Hid (S.drop P = dat 1 T ++ rest)) (fun _ k _ => (intOf k).toNat)
  case atStart => exact ⟨t, P, R, T, rfl, HTL, HT, HLR, HQ, Lib.hid (Stay.refl _ _ _), HS⟩
  case round =>
    obtain ⟨t, P, R, T, rfl, HTL, HT, HLR, HD, HST, HS⟩ := hrel
    obtain ⟨wi, hwi⟩ : ∃ wi, wi = wr := ⟨_, rfl⟩
    rw [← hwi] at HD HST ⊢
    clear hwi HQ
    by_cases h3 : 3 ≤ t
    · have h3i : (3 : Int) ≤ (t : Int) := by omega
      obtain ⟨t3, ht3⟩ : ∃ t3, t3 = t - 3 := ⟨_, rfl⟩
      have e4 : (t : Int) - 3 = (t3 : Int) := by omega
      have HT3 : Hid (t = t3 + 3) := Lib.hid (by omega)
      have htb : t3 < 10000 := by
        have h1 := HRT.out
        have h2 := HTL.out
        rw [← HLR.out, List.length_append] at h1
        omega
      clear ht3
      obtain ⟨a, b, d, T2, rfl⟩ : ∃ a b d T2, T = a :: b :: d :: T2 := by
        have := HTL.out
        match T, this with
        | a :: b :: d :: T2, _ => exact ⟨a, b, d, T2, rfl⟩
        | [a, b], h => simp at h; omega
        | [a], h => simp at h; omega
        | [], h => simp at h; omega
      have hda := HT.out a (by simp)
      have hdb := HT.out b (by simp)
      have hdd := HT.out d (by simp)
      obtain ⟨x, hx⟩ : ∃ x, x = (a - 48) * 100 + (b - 48) * 10 + (d - 48) := ⟨_, rfl⟩
      have HS2 : S.drop P = bo x 10 ++ (dat 1 T2 ++ rest) := by
        have := HS.out
        rw [dat1_three, ← hx, List.append_assoc] at this; exact this
      have hx1 : ((1000 : Int) ≤ (x : Int)) = False := by simp; omega
      have e1 : (48 : Int) + (x : Int) / 100 = (a : Int) := by omega
      have e2 : (48 : Int) + (x : Int) / 10 % 10 = (b : Int) := by omega
      have e3 : (48 : Int) + (x : Int) % 10 = (d : Int) := by omega
      have hra : a < 256 := by omega
      have hrb : b < 256 := by omega
      have hrd : d < 256 := by omega
      have HRD := Lib.hid (rdF 10 10 rfl S HBE.out HBN.out x (by omega) (by omega) (by omega) (dat 1 T2 ++ rest) HS2 (by have := HR.out; rw [List.length_append]; omega) HD.out)
      have HS3 : Hid (S.drop (P + 10) = dat 1 T2 ++ rest) := Lib.hid (drop_field HS2 (bo_len _ _))
      have HT2 : Hid (isDg T2) := Lib.hid (fun y hy => HT.out y (by simp [hy]))
      have hL3 : R.length + 3 ≤ 10000 := by have := HRT.out; rw [← HLR.out] at this; simp at this; omega
      clear HS2 hda hdb hdd hx
      go_wp2_with fail
      refine HRD.out.mono ?_
      rintro e w2 ⟨rfl, HD2, hm2⟩
      have HST2 := Lib.hid (HST.out.read hm2.out)
      clear hm2 HRD
      have HO2 := Lib.hid HD2.out.own
      have HPL2 := Lib.hid HD2.out.plt
      go_wp2_with (at_builtin; refine wpList_pushAt _ _ 30 (p + 1) 5 (.int .u8 0) 1 _ R.length _ (.int .u8 (a : Nat)) rfl rfl rfl rfl Try.underlying30 Try.infoU8Q rfl rfl (by decide) HO2.out (by omega) HPL2.out ?_)
      intro v3 w3 hown hg hb hl
      obtain ⟨R1, hR1⟩ : ∃ X, X = R ++ [a] := ⟨_, rfl⟩
      have HLR1 : Hid (R1.length = R.length + 1) := Lib.hid (by rw [hR1, List.length_append]; rfl)
      have HD3 : Hid (QSt B p A c _ v3 R1 w3) := Lib.hid (HD2.out.grow hb (by rw [hR1, bl_snoc, List.length_append]; exact hown))
      have HST3 := Lib.hid (HST2.out.grow hg (hl.imp id (fun h => ⟨_, h, Nat.le_succ _⟩)))
      have HXR1 := Lib.hid hR1
      clear hown hg hb hl HO2 HPL2 HD2 HST2 hR1
      have HO3 := Lib.hid HD3.out.own
      have HPL3 := Lib.hid HD3.out.plt
      go_wp2_with (at_builtin; refine wpList_pushAt _ _ 30 (p + 1) 5 (.int .u8 0) 1 _ R1.length _ (.int .u8 (b : Nat)) rfl rfl rfl rfl Try.underlying30 Try.infoU8Q rfl rfl (by decide) HO3.out (by have := HLR1.out; omega) HPL3.out ?_)
      intro v4 w4 hown hg hb hl
      obtain ⟨R2, hR2⟩ : ∃ X, X = R1 ++ [b] := ⟨_, rfl⟩
      have HLR2 : Hid (R2.length = R1.length + 1) := Lib.hid (by rw [hR2, List.length_append]; rfl)
      have HD4 : Hid (QSt B p A c _ v4 R2 w4) := Lib.hid (HD3.out.grow hb (by rw [hR2, bl_snoc, List.length_append]; exact hown))
      have HST4 := Lib.hid (HST3.out.grow hg (hl.imp id (fun h => ⟨_, h, Nat.le_succ _⟩)))
      have HXR2 := Lib.hid hR2
      clear hown hg hb hl HO3 HPL3 HD3 HST3 hR2
      have HO4 := Lib.hid HD4.out.own
      have HPL4 := Lib.hid HD4.out.plt
      go_wp2_with (at_builtin; refine wpList_pushAt _ _ 30 (p + 1) 5 (.int .u8 0) 1 _ R2.length _ (.int .u8 (d : Nat)) rfl rfl rfl rfl Try.underlying30 Try.infoU8Q rfl rfl (by decide) HO4.out (by have := HLR1.out; have := HLR2.out; omega) HPL4.out ?_)
      intro v5 w5 hown hg hb hl
      obtain ⟨R3, hR3⟩ : ∃ X, X = R2 ++ [d] := ⟨_, rfl⟩
      have HLR3 : Hid (R3.length = R2.length + 1) := Lib.hid (by rw [hR3, List.length_append]; rfl)
      have HD5 : Hid (QSt B p A c _ v5 R3 w5) := Lib.hid (HD4.out.grow hb (by rw [hR3, bl_snoc, List.length_append]; exact hown))
      have HST5 := Lib.hid (HST4.out.grow hg (hl.imp id (fun h => ⟨_, h, Nat.le_succ _⟩)))
      have HXR3 := Lib.hid hR3
      clear hown hg hb hl HO4 HPL4 HD4 HST4 hR3
      go_wp2_with fail
      go_roundw
      case rel => exact ⟨t3, P + 10, R3, T2, rfl, Lib.hid (by have := HTL.out; simp at this; have := HT3.out; omega), HT2, Lib.hid (by rw [HXR3.out, HXR2.out, HXR1.out, ← HLR.out]; simp), HD5, HST5, HS3⟩
      case measure => simp [intOf]; have := HT3.out; omega
    · have h3i : ((3 : Int) ≤ (t : Int)) = False := by simp; omega
      by_cases h2 : t = 2
      · have h2i : ((t : Int) == 2) = true := by simp; omega
        have HH := Lib.hid h2
        obtain ⟨a, b, rfl⟩ : ∃ a b, T = [a, b] := by
          have := HTL.out
          match T, this with
          | a :: b :: d :: T2, h => simp at h; omega
          | [a, b], _ => exact ⟨a, b, rfl⟩
          | [a], h => simp at h; omega
          | [], h => simp at h; omega
        clear h2
        have hda := HT.out a (by simp)
        have hdb := HT.out b (by simp)
        obtain ⟨x, hx⟩ : ∃ x, x = (a - 48) * 10 + (b - 48) := ⟨_, rfl⟩
        have HS2 : S.drop P = bo x 7 ++ rest := by
          have := HS.out
          rw [dat, if_pos rfl, ← hx] at this; exact this
        have hx1 : ((100 : Int) ≤ (x : Int)) = False := by simp; omega
        have e2 : (48 : Int) + (x : Int) / 10 = (a : Int) := by omega
        have e3 : (48 : Int) + (x : Int) % 10 = (b : Int) := by omega
        have hra : a < 256 := by omega
        have hrb : b < 256 := by omega
        have HRD := Lib.hid (rdF 7 7 rfl S HBE.out HBN.out x (by omega) (by omega) (by omega) rest HS2 HR.out HD.out)
        have HS3 : Hid (S.drop (P + 7) = rest) := Lib.hid (drop_field HS2 (bo_len _ _))
        have hL3 : R.length + 2 ≤ 10000 := by have := HRT.out; rw [← HLR.out] at this; simp at this; omega
        clear HS2 hda hdb hx
        go_wp2_with fail
        refine HRD.out.mono ?_
        rintro e w2 ⟨rfl, HD2, hm2⟩
        have HST2 := Lib.hid (HST.out.read hm2.out)
        clear hm2 HRD
        have HO2 := Lib.hid HD2.out.own
        have HPL2 := Lib.hid HD2.out.plt
        go_wp2_with (at_builtin; refine wpList_pushAt _ _ 30 (p + 1) 5 (.int .u8 0) 1 _ R.length _ (.int .u8 (a : Nat)) rfl rfl rfl rfl Try.underlying30 Try.infoU8Q rfl rfl (by decide) HO2.out (by omega) HPL2.out ?_)
        intro v3 w3 hown hg hb hl
        obtain ⟨R1, hR1⟩ : ∃ X, X = R ++ [a] := ⟨_, rfl⟩
        have HLR1 : Hid (R1.length = R.length + 1) := Lib.hid (by rw [hR1, List.length_append]; rfl)
        have HD3 : Hid (QSt B p A c _ v3 R1 w3) := Lib.hid (HD2.out.grow hb (by rw [hR1, bl_snoc, List.length_append]; exact hown))
        have HST3 := Lib.hid (HST2.out.grow hg (hl.imp id (fun h => ⟨_, h, Nat.le_succ _⟩)))
        have HXR1 := Lib.hid hR1
        clear hown hg hb hl HO2 HPL2 HD2 HST2 hR1
        have HO3 := Lib.hid HD3.out.own
        have HPL3 := Lib.hid HD3.out.plt
        go_wp2_with (at_builtin; refine wpList_pushAt _ _ 30 (p + 1) 5 (.int .u8 0) 1 _ R1.length _ (.int .u8 (b : Nat)) rfl rfl rfl rfl Try.underlying30 Try.infoU8Q rfl rfl (by decide) HO3.out (by have := HLR1.out; omega) HPL3.out ?_)
        intro v4 w4 hown hg hb hl
        obtain ⟨R2, hR2⟩ : ∃ X, X = R1 ++ [b] := ⟨_, rfl⟩
        have HLR2 : Hid (R2.length = R1.length + 1) := Lib.hid (by rw [hR2, List.length_append]; rfl)
        have HD4 : Hid (QSt B p A c _ v4 R2 w4) := Lib.hid (HD3.out.grow hb (by rw [hR2, bl_snoc, List.length_append]; exact hown))
        have HST4 := Lib.hid (HST3.out.grow hg (hl.imp id (fun h => ⟨_, h, Nat.le_succ _⟩)))
        have HXR2 := Lib.hid hR2
        clear hown hg hb hl HO3 HPL3 HD3 HST3 hR2
        go_wp2_with fail
        go_ret2
        exact ⟨P + 7, v4, rfl, by rw [← HLR.out, show R ++ [a, b] = R2 by rw [HXR2.out, HXR1.out]; simp]; exact HD4, HST4, HS3⟩
      · have h2i : ((t : Int) == 2) = false := by simp; omega
        by_cases h1 : t = 1
        · have h1i : ((t : Int) == 1) = true := by simp; omega
          have HH := Lib.hid h1
          obtain ⟨a, rfl⟩ : ∃ a, T = [a] := by
            have := HTL.out
            match T, this with
            | a :: b :: T2, h => simp at h; omega
            | [a], _ => exact ⟨a, rfl⟩
            | [], h => simp at h; omega
          clear h1 h2
          have hda := HT.out a (by simp)
          obtain ⟨x, hx⟩ : ∃ x, x = a - 48 := ⟨_, rfl⟩
          have HS2 : S.drop P = bo x 4 ++ rest := by
            have := HS.out
            rw [dat, if_pos rfl, ← hx] at this; exact this
          have hx1 : ((10 : Int) ≤ (x : Int)) = False := by simp; omega
          have e3 : (48 : Int) + (x : Int) = (a : Int) := by omega
          have hra : a < 256 := by omega
          have HRD := Lib.hid (rdF 4 4 rfl S HBE.out HBN.out x (by omega) (by omega) (by omega) rest HS2 HR.out HD.out)
          have HS3 : Hid (S.drop (P + 4) = rest) := Lib.hid (drop_field HS2 (bo_len _ _))
          have hL3 : R.length + 1 ≤ 10000 := by have := HRT.out; rw [← HLR.out] at this; simp at this; omega
          clear HS2 hda hx
          go_wp2_with fail
          refine HRD.out.mono ?_
          rintro e w2 ⟨rfl, HD2, hm2⟩
          have HST2 := Lib.hid (HST.out.read hm2.out)
          clear hm2 HRD
          have HO2 := Lib.hid HD2.out.own
          have HPL2 := Lib.hid HD2.out.plt
          go_wp2_with (at_builtin; refine wpList_pushAt _ _ 30 (p + 1) 5 (.int .u8 0) 1 _ R.length _ (.int .u8 (a : Nat)) rfl rfl rfl rfl Try.underlying30 Try.infoU8Q rfl rfl (by decide) HO2.out (by omega) HPL2.out ?_)
          intro v3 w3 hown hg hb hl
          obtain ⟨R1, hR1⟩ : ∃ X, X = R ++ [a] := ⟨_, rfl⟩
          have HLR1 : Hid (R1.length = R.length + 1) := Lib.hid (by rw [hR1, List.length_append]; rfl)
          have HD3 : Hid (QSt B p A c _ v3 R1 w3) := Lib.hid (HD2.out.grow hb (by rw [hR1, bl_snoc, List.length_append]; exact hown))
          have HST3 := Lib.hid (HST2.out.grow hg (hl.imp id (fun h => ⟨_, h, Nat.le_succ _⟩)))
          have HXR1 := Lib.hid hR1
          clear hown hg hb hl HO2 HPL2 HD2 HST2 hR1
          go_wp2_with fail
          go_ret2
          exact ⟨P + 4, v3, rfl, by rw [← HLR.out, ← HXR1.out]; exact HD3, HST3, HS3⟩
        · have h1i : ((t : Int) == 1) = false := by simp; omega
          obtain rfl : T = [] := by
            have := HTL.out
            match T, this with
            | a :: T2, h => simp at h; omega
            | [], _ => rfl
          have hS3 := HS.out
          rw [show dat 1 [] = [] from rfl, List.nil_append] at hS3
          have HS3 := Lib.hid hS3
          have hLR := HLR.out
          rw [List.append_nil] at hLR
          have HLL := Lib.hid hLR
          clear hS3 hLR
          go_wp2_with fail
          go_ret2
          exact ⟨P, u1, rfl, by rw [← HLL.out]; exact HD, HST, HS3⟩
end Go.Proofs.Ythkiajighmhdoaa
