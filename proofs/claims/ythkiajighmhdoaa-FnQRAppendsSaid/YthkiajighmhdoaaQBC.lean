/-
  Alphanumeric segments read, walked. No condition beyond the bounds that each theorem states.
-/
import Derived.Test.YthkiajighmhdoaaQBB
namespace Go.Proofs.Ythkiajighmhdoaa
open Go.RowKit Go.Qz Go.Qz.BS Go.Qz.QA
set_option linter.unusedVariables false

def isAl (T : List Nat) : Prop := ∀ y ∈ T, alNum y < 45 ∧ alOf (alNum y) = y ∧ y < 256
set_option maxRecDepth 100000 in
set_option maxHeartbeats 12800000 in
theorem alphaSeg (B : List Nat) (S rest : List Bool) (hB : B = by8 S) (hBn : B.length < 1000000) (hr : 8 ≤ rest.length) (p : Nat) (A : Option Addr) (c P : Nat) (v : Value) (R T : List Nat) (hT : isAl T) (hRT : (R ++ T).length ≤ 10000) (hS : S.drop P = dat 2 T ++ rest) (w : World) (h : QSt B p A c P v R w) :
    Calls Try.prog 61 #[.pointer (some ⟨p, 0, none⟩), v, .int .i64 T.length, .bool false] w (SegQ B S rest p A c v (R ++ T) w) := by
  have HBE := Lib.hid hB
  have HBN := Lib.hid hBn
  have HR := Lib.hid hr
  have HT := Lib.hid hT
  have HRT := Lib.hid hRT
  have HS := Lib.hid hS
  have HQ := Lib.hid h
  obtain ⟨L, hL⟩ : ∃ L, L = R ++ T := ⟨_, rfl⟩
  rw [← hL] at HRT ⊢
  have HLR := Lib.hid hL.symm
  obtain ⟨t, ht⟩ : ∃ t, t = T.length := ⟨_, rfl⟩
  rw [← ht]
  have HTL := Lib.hid ht
  have hneq : ∀ W, (binOp .neq 60 .nilIface .nilIface).run Try.prog W = .ok (.bool false) W := fun W => rfl
  clear hB hBn hr hT hRT hS hL ht
  obtain ⟨A7, c7, hv7, _, _, _⟩ := Rd.of_own h.own
  obtain ⟨n7, hn7⟩ : ∃ n, n = R.length := ⟨_, rfl⟩
  rw [← hn7] at hv7
  clear h hn7
  subst hv7
  go_enter Try.func61, Try.ntmps61
  go_wp2_with fail
  obtain ⟨v, hv⟩ : ∃ v, v = Value.slice A7 n7 c7 := ⟨_, rfl⟩
  rw [← hv]
  rw [← hv] at HQ
  have HV := Lib.hid hv
  clear hv
  go_loopw [1, 2] (fun x k wr => ∃ (t P : Nat) (R T : List Nat), k = .int .i64 t ∧ Hid (t = T.length) ∧ Hid (isAl T) ∧ Hid (R ++ T = L) ∧ Hid (QSt B p A c P x R wr) ∧ Hid (Stay w wr p v x) ∧ Hid (S.drop P = dat 2 T ++ rest)) (fun _ k _ => (intOf k).toNat)
  case atStart => exact ⟨t, P, R, T, rfl, HTL, HT, HLR, HQ, Lib.hid (Stay.refl _ _ _), HS⟩
  case round =>
    obtain ⟨t, P, R, T, rfl, HTL, HT, HLR, HD, HST, HS⟩ := hrel
    obtain ⟨wi, hwi⟩ : ∃ wi, wi = wr := ⟨_, rfl⟩
    rw [← hwi] at HD HST ⊢
    clear hwi HQ
    by_cases h3 : 2 ≤ t
    · have h3i : (1 : Int) < (t : Int) := by omega
      obtain ⟨t3, ht3⟩ : ∃ t3, t3 = t - 2 := ⟨_, rfl⟩
      have e4 : (t : Int) - 2 = (t3 : Int) := by omega
      have HT3 : Hid (t = t3 + 2) := Lib.hid (by omega)
      have htb : t3 < 10000 := by
        have h1 := HRT.out
        have h2 := HTL.out
        rw [← HLR.out, List.length_append] at h1
        omega
      clear ht3
      obtain ⟨a, b, T2, rfl⟩ : ∃ a b T2, T = a :: b :: T2 := by
        have := HTL.out
        match T, this with
        | a :: b :: T2, _ => exact ⟨a, b, T2, rfl⟩
        | [a], h => simp at h; omega
        | [], h => simp at h; omega
      obtain ⟨hda, hoa, hra⟩ := HT.out a (by simp)
      obtain ⟨hdb, hob, hrb⟩ := HT.out b (by simp)
      have HS1 := HS.out
      rw [dat2_two, List.append_assoc] at HS1
      obtain ⟨n1, hn1⟩ : ∃ n, n = alNum a := ⟨_, rfl⟩
      obtain ⟨n2, hn2⟩ : ∃ n, n = alNum b := ⟨_, rfl⟩
      rw [← hn1] at hda hoa HS1
      rw [← hn2] at hdb hob HS1
      obtain ⟨x, hx⟩ : ∃ x, x = n1 * 45 + n2 := ⟨_, rfl⟩
      have HS2 : S.drop P = bo x 11 ++ (dat 2 T2 ++ rest) := by rw [hx]; exact HS1
      have e1 : (x : Int) / 45 = (n1 : Int) := by omega
      have e2 : (x : Int) % 45 = (n2 : Int) := by omega
      have HW3 : Hid (wrap64 (n1 : Int) = (n1 : Int)) := Lib.hid (by unfold wrap64; omega)
      have HN3 := Lib.hid hda
      have HA3 := Lib.hid hoa
      have HN4 := Lib.hid hdb
      have HA4 := Lib.hid hob
      have HRD := Lib.hid (rdF 11 11 rfl S HBE.out HBN.out x (by omega) (by omega) (by omega) (dat 2 T2 ++ rest) HS2 (by have := HR.out; rw [List.length_append]; omega) HD.out)
      have HS3 : Hid (S.drop (P + 11) = dat 2 T2 ++ rest) := Lib.hid (drop_field HS2 (bo_len _ _))
      have HT2 : Hid (isAl T2) := Lib.hid (fun y hy => HT.out y (by simp [hy]))
      have hL3 : R.length + 2 ≤ 10000 := by have := HRT.out; rw [← HLR.out] at this; simp at this; omega
      clear HS2 HS1 hda hdb hoa hob hx hn1 hn2
      go_wp2_with fail
      refine HRD.out.mono ?_
      rintro e w2 ⟨rfl, HD2, hm2⟩
      have HST2 := Lib.hid (HST.out.read hm2.out)
      clear hm2 HRD
      go_wp2_with fail
      rw [HW3.out]
      refine (alphaChar n1 HN3.out _).mono ?_
      rintro e wc ⟨rfl, rfl⟩
      rw [HA3.out]
      have HO2 := Lib.hid HD2.out.own
      have HPL2 := Lib.hid HD2.out.plt
      go_wp2_with (at_builtin; refine wpList_pushAt _ _ 30 (p + 1) 5 (.int .u8 0) 1 _ R.length _ (.int .u8 (a : Nat)) rfl rfl rfl rfl Try.underlying30 Try.infoU8Q rfl rfl (by decide) HO2.out (by omega) HPL2.out ?_)
      intro v3 w3 hown hg hb hl
      obtain ⟨R1, hR1⟩ : ∃ X, X = R ++ [a] := ⟨_, rfl⟩
      have HLR1 : Hid (R1.length = R.length + 1) := Lib.hid (by rw [hR1, List.length_append]; rfl)
      have HD3 : Hid (QSt B p A c _ v3 R1 w3) := Lib.hid (HD2.out.grow hb (by rw [hR1, bl_snoc, List.length_append]; exact hown))
      have HST3 := Lib.hid (HST2.out.grow hg (hl.imp id (fun h => ⟨_, h, Nat.le_succ _⟩)))
      have HXR1 := Lib.hid hR1
      clear hown hg hb hl HO2 HPL2 HD2 HST2 hR1
      go_wp2_with fail
      refine (alphaChar n2 HN4.out _).mono ?_
      rintro e wc ⟨rfl, rfl⟩
      rw [HA4.out]
      have HO3 := Lib.hid HD3.out.own
      have HPL3 := Lib.hid HD3.out.plt
      go_wp2_with (at_builtin; refine wpList_pushAt _ _ 30 (p + 1) 5 (.int .u8 0) 1 _ R1.length _ (.int .u8 (b : Nat)) rfl rfl rfl rfl Try.underlying30 Try.infoU8Q rfl rfl (by decide) HO3.out (by have := HLR1.out; omega) HPL3.out ?_)
      intro v4 w4 hown hg hb hl
      obtain ⟨R2, hR2⟩ : ∃ X, X = R1 ++ [b] := ⟨_, rfl⟩
      have HLR2 : Hid (R2.length = R1.length + 1) := Lib.hid (by rw [hR2, List.length_append]; rfl)
      have HD4 : Hid (QSt B p A c _ v4 R2 w4) := Lib.hid (HD3.out.grow hb (by rw [hR2, bl_snoc, List.length_append]; exact hown))
      have HST4 := Lib.hid (HST3.out.grow hg (hl.imp id (fun h => ⟨_, h, Nat.le_succ _⟩)))
      have HXR2 := Lib.hid hR2
      clear hown hg hb hl HO3 HPL3 HD3 HST3 hR2
      go_wp2_with fail
      go_roundw
      case rel => exact ⟨t3, P + 11, R2, T2, rfl, Lib.hid (by have := HTL.out; simp at this; have := HT3.out; omega), HT2, Lib.hid (by rw [HXR2.out, HXR1.out, ← HLR.out]; simp), HD4, HST4, HS3⟩
      case measure => simp [intOf]; have := HT3.out; omega
    · have h3i : ((1 : Int) < (t : Int)) = False := by simp; omega
      by_cases h1 : t = 1
      · have h1i : ((t : Int) == 1) = true := by simp; omega
        have HH := Lib.hid h1
        obtain ⟨a, rfl⟩ : ∃ a, T = [a] := by
          have := HTL.out
          match T, this with
          | a :: b :: T2, h => simp at h; omega
          | [a], _ => exact ⟨a, rfl⟩
          | [], h => simp at h; omega
        clear h1
        obtain ⟨hda, hoa, hra⟩ := HT.out a (by simp)
        have HS2 : S.drop P = bo (alNum a) 6 ++ rest := by
          have := HS.out
          rw [dat, if_neg (by omega), if_pos rfl] at this; exact this
        obtain ⟨x, hx⟩ : ∃ x, x = alNum a := ⟨_, rfl⟩
        rw [← hx] at hda hoa HS2
        have HN3 := Lib.hid hda
        have HA3 := Lib.hid hoa
        have HRD := Lib.hid (rdF 6 6 rfl S HBE.out HBN.out x (by omega) (by omega) (by omega) rest HS2 HR.out HD.out)
        have HS3 : Hid (S.drop (P + 6) = rest) := Lib.hid (drop_field HS2 (bo_len _ _))
        have hL3 : R.length + 1 ≤ 10000 := by have := HRT.out; rw [← HLR.out] at this; simp at this; omega
        clear HS2 hda hoa hx
        go_wp2_with fail
        refine HRD.out.mono ?_
        rintro e w2 ⟨rfl, HD2, hm2⟩
        have HST2 := Lib.hid (HST.out.read hm2.out)
        clear hm2 HRD
        go_wp2_with fail
        refine (alphaChar x HN3.out _).mono ?_
        rintro e wc ⟨rfl, rfl⟩
        rw [HA3.out]
        have HO2 := Lib.hid HD2.out.own
        have HPL2 := Lib.hid HD2.out.plt
        go_wp2_with (at_builtin; refine wpList_pushAt _ _ 30 (p + 1) 5 (.int .u8 0) 1 _ R.length _ (.int .u8 (a : Nat)) rfl rfl rfl rfl Try.underlying30 Try.infoU8Q rfl rfl (by decide) HO2.out (by omega) HPL2.out ?_)
        intro v3 w3 hown hg hb hl
        obtain ⟨R1, hR1⟩ : ∃ X, X = R ++ [a] := ⟨_, rfl⟩
        have HLR1 : Hid (R1.length = R.length + 1) := Lib.hid (by rw [hR1, List.length_append]; rfl)
        have HD3 : Hid (QSt B p A c _ v3 R1 w3) := Lib.hid (HD2.out.grow hb (by rw [hR1, bl_snoc, List.length_append]; exact hown))
        have HST3 := Lib.hid (HST2.out.grow hg (hl.imp id (fun h => ⟨_, h, Nat.le_succ _⟩)))
        have HXR1 := Lib.hid hR1
        clear hown hg hb hl HO2 HPL2 HD2 HST2 hR1
        go_wp2_with fail
        go_ret2
        exact ⟨P + 6, v3, rfl, by rw [← HLR.out, ← HXR1.out]; exact HD3, by rw [← HV.out]; exact HST3, HS3⟩
      · have h1i : ((t : Int) == 1) = false := by simp; omega
        obtain rfl : T = [] := by
          have := HTL.out
          match T, this with
          | a :: T2, h => simp at h; omega
          | [], _ => rfl
        have hS3 := HS.out
        rw [show dat 2 [] = [] from rfl, List.nil_append] at hS3
        have HS3 := Lib.hid hS3
        have hLR := HLR.out
        rw [List.append_nil] at hLR
        have HLL := Lib.hid hLR
        clear hS3 hLR
        go_wp2_with fail
        go_ret2
        exact ⟨P, u1, rfl, by rw [← HLL.out]; exact HD, by rw [← HV.out]; exact HST, HS3⟩
end Go.Proofs.Ythkiajighmhdoaa
