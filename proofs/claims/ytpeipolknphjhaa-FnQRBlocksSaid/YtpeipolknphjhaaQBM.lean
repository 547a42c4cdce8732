/-
  spec.QRMixed, walked. No condition beyond the bounds that the theorem states.
-/
import Derived.Test.YtpeipolknphjhaaQBU
namespace Go.Proofs.Ytpeipolknphjhaa
open Go.RowKit Go.Qz Go.Qz.QW Go.Qz.QI
set_option linter.unusedVariables false

def rawV (raw : Nat → Nat) (t : Nat) : List Value := (List.range t).map fun i => .int .u8 (raw i : Nat)
theorem rawV_succ (raw : Nat → Nat) (t : Nat) : rawV raw (t + 1) = rawV raw t ++ [.int .u8 (raw t : Nat)] := by
  unfold rawV; rw [List.range_succ, List.map_append]; rfl
def MixPost (s : Sh) (raw : Nat → Nat) (w : World) (e : Ending) (w' : World) : Prop := ∃ A c, e = .returned (.slice A s.tot c) ∧ Rd w' A s.tot (fun i => .int .u8 (raw i : Nat)) ∧ Below w.heap.size w w'
theorem MixPost.mk {s : Sh} {raw : Nat → Nat} {w w' : World} {v : Value} {t : Nat} (ht : t = s.tot) (h : w'.ownsRow w.heap.size 5 1 v t (rawV raw t)) (hb : Below w.heap.size w w') : MixPost s raw w (.returned v) w' := by
  subst ht
  obtain ⟨A, c, rfl, h1, h2, h3⟩ := Rd.of_own h
  refine ⟨A, c, rfl, h3.congr fun j hj => ?_, hb⟩
  unfold rawV
  rw [List.getD_eq_getElem?_getD, List.getElem?_map, List.getElem?_range hj]; rfl

set_option maxRecDepth 100000 in
set_option maxHeartbeats 6400000 in
theorem mixed (n l c : Nat) (h1 : 1 ≤ n) (h2 : n ≤ 40) (hl : l < 4) (A : Option Addr) (raw : Nat → Nat) (w : World) (hr : URows w A (nbOf n l) (shOf' n l).len (fun j i => raw ((shOf' n l).at_ j i))) :
    Calls Try.prog 27 #[.slice A (nbOf n l) c, .int .i64 n, .int .i64 l] w (MixPost (shOf' n l) raw w) := by
  have HC := Lib.hid (correction n l h1 h2 hl w)
  have HZ := Lib.hid (fun W => dataSizes n l h1 h2 hl W)
  have hO := shOf_ok h1 h2 hl
  obtain ⟨s, hs⟩ : ∃ s, s = shOf' n l := ⟨_, rfl⟩
  obtain ⟨x, hx⟩ : ∃ x, x = ecOf n l := ⟨_, rfl⟩
  obtain ⟨y, hy⟩ : ∃ y, y = nbOf n l := ⟨_, rfl⟩
  have hsx : s.ec = x := by rw [hs, hx]; rfl
  have hsy : s.nb = y := by rw [hs, hy]; rfl
  rw [← hs] at hO HZ hr ⊢
  rw [← hy] at hr ⊢
  unfold CorrPost at HC
  rw [← hx, ← hy] at HC
  have htot := Sh.tot_le hO
  have hy0 : 0 < y := by rw [← hsy]; exact hO.nb0
  have hy1 : y ≤ 81 := by rw [← hsy]; exact hO.nb1
  have hx1 : x ≤ 30 := by rw [← hsx]; exact hO.ec1
  have HR := Lib.hid hr
  have HO := Lib.hid hO
  have HX := Lib.hid hsx
  have HY := Lib.hid hsy
  obtain ⟨sh, hshe⟩ : ∃ sh, sh = s.sh := ⟨_, rfl⟩
  obtain ⟨st, hste⟩ : ∃ st, st = s.st := ⟨_, rfl⟩
  have hsh1 : sh ≤ 123 := by rw [hshe]; exact hO.sh1
  have hst0 : 0 < st := by have := hO.lg1; rw [hste]; unfold Sh.st; omega
  have hsty : st ≤ y := by rw [hste, ← hsy]; unfold Sh.st; omega
  have HSH := Lib.hid hshe
  have HST := Lib.hid hste
  have HLG : Hid (st + s.lg = y) := Lib.hid (by have := hO.lg1; rw [hste, ← hsy]; unfold Sh.st; omega)
  have HTL := Lib.hid htot
  clear hs hx hy hsx hsy hO hr htot hshe hste h1 h2 hl
  go_enter Try.func27, Try.ntmps27
  go_wp2_with fail
  refine HC.out.mono ?_
  rintro e w1 ⟨rfl, hb⟩
  have HB1 := Lib.hid hb
  clear hb HC
  go_wp2_with fail
  refine (HZ.out _).mono ?_
  rintro e w2 ⟨D, rfl, hIA, hD, hb⟩
  rw [HY.out] at hIA ⊢
  have HIA := Lib.hid hIA
  have HB2 := Lib.hid (HB1.out.trans (hb.mono HB1.out.size))
  have HDC : Hid (∀ j, j < y → w2.cell? ⟨D, j, none⟩ = some (.int .i64 (s.ds j : Nat))) := Lib.hid (fun j hj => by
    have h5 := HIA.out.cell (j := j) (by rw [sizeTo_len, HY.out]; exact hj)
    rw [sizeTo_nth _ _ _ (by rw [HY.out]; exact hj), if_pos hj] at h5
    exact h5)
  have HIAl := Lib.hid HIA.out.lt
  have HR2 := Lib.hid (HR.out.below HB2.out)
  clear hIA hb hD HZ
  go_wp2_with fail
  obtain ⟨G, hG⟩ : ∃ G, G = w2.heap.size := ⟨_, rfl⟩
  rw [← hG] at HIAl
  have HGE := Lib.hid hG
  have HB0 : Hid (Below G w2 w2) := Lib.hid (Below.refl _ _)
  have HO0 : Hid (w2.ownsRow G 5 1 (.slice none 0 0) 0 (rawV raw 0)) := Lib.hid (World.ownsRow_nil _ _ _ _)
  have hy0i : (0 : Int) < (y : Int) := by omega
  clear hG
  go_loopw [10, 11] (fun v i wr => ∃ (I F : Nat), I ≤ sh + 1 ∧ i = .int .i64 I ∧ Hid (F = I * y - (if I = sh + 1 then st else 0)) ∧ Hid (wr.ownsRow G 5 1 v F (rawV raw F)) ∧ Hid (Below G w2 wr)) (fun _ i _ => sh + 1 - (intOf i).toNat)
  case atStart => exact ⟨0, 0, by omega, rfl, Lib.hid (by rw [if_neg (by omega)]; omega), HO0, HB0⟩
  case round =>
    obtain ⟨I, F, hI, rfl, HF, HOW, HB⟩ := hrel
    clear HO0 HB0
    obtain ⟨wo, hwo⟩ : ∃ wo, wo = wr := ⟨_, rfl⟩
    rw [← hwo] at HOW HB ⊢
    clear hwo
    have d0 := (HB.out.cell (p := ⟨D, 0, none⟩) HIAl.out).trans (HDC.out 0 hy0)
    rw [Sh.ds_lo (by rw [← HST.out]; exact hst0), ← HSH.out] at d0
    by_cases hIl : I < sh + 1
    · have hI1 : (I : Int) ≤ (sh : Int) := by omega
      have HF0 : Hid (F = I * y + (0 - (if I = sh then st else 0))) := Lib.hid (by rw [HF.out, if_neg (show ¬ I = sh + 1 by omega)]; omega)
      clear HF
      go_wp2_with fail
      clear d0
      go_loopw [10, 35] (fun v i wr => ∃ (J F : Nat), J ≤ y ∧ i = .int .i64 J ∧ Hid (F = I * y + (J - (if I = sh then st else 0))) ∧ Hid (wr.ownsRow G 5 1 v F (rawV raw F)) ∧ Hid (Below G w2 wr)) (fun _ i _ => y - (intOf i).toNat)
      case atStart => exact ⟨0, F, by omega, rfl, HF0, HOW, HB⟩
      case round =>
        obtain ⟨J, F2, hJ, rfl, HF2, HOW2, HB2'⟩ := hrel
        clear HF0 HOW HB
        obtain ⟨wi, hwi⟩ : ∃ wi, wi = wr := ⟨_, rfl⟩
        rw [← hwi] at HOW2 HB2' ⊢
        clear hwi
        by_cases hJl : J < y
        · have hJ1 : (J : Int) < (y : Int) := by omega
          have hJ0 : (0 : Int) ≤ (J : Int) := by omega
          have dJ := (HB2'.out.cell (p := ⟨D, J, none⟩) HIAl.out).trans (HDC.out J hJl)
          obtain ⟨b, off, rfl, hbl, hrow⟩ := (HR2.out.below (by have := HB2'.out; rw [HGE.out] at this; exact this)) hy0
          obtain ⟨B, C, hrc, hlc, hrd⟩ := hrow J hJl
          obtain ⟨dj, hdj⟩ : ∃ dj, dj = s.ds J := ⟨_, rfl⟩
          rw [← hdj] at dJ
          have hlen : s.len J = dj + x := by unfold Sh.len; rw [← hdj, HX.out]
          rw [hlen] at hrc hlc hrd
          by_cases hlo : I < dj
          · have hlo1 : (I : Int) < (dj : Int) := by omega
            have hlo2 : (I : Int) < ((dj + x : Nat) : Int) := by omega
            obtain ⟨rb, ro, rfl, hrb, hrr⟩ := hrd (by omega)
            have cv := hrr I (by omega)
            obtain ⟨dx, hdx⟩ : ∃ dx, dx = dj + x := ⟨_, rfl⟩
            rw [← hdx] at hrc hlo2
            have hlo3 : I < dx := by omega
            have hat : s.at_ J I = F2 := by
              have h6 : s.sh = sh := HSH.out.symm
              rw [HF2.out]
              by_cases e : I = sh
              · rw [if_pos e]
                have h7 : st ≤ J := by
                  rcases Nat.lt_or_ge J st with h7 | h7
                  · have := Sh.ds_lo (s := s) (j := J) (by rw [← HST.out]; exact h7); omega
                  · exact h7
                have h8 := Sh.at_mid (s := s) (j := J) (by rw [← HST.out]; exact h7)
                rw [← HSH.out, ← HST.out, HY.out] at h8
                rw [e, h8]
              · rw [if_neg e]
                have h8 := Sh.at_low (s := s) (j := J) (i := I) (by omega)
                rw [HY.out] at h8
                rw [h8]; omega
            have hF3 : F2 < 13000 := by
              have h8 := Sh.at_lt HO.out (j := J) (i := I) (by rw [HY.out]; exact hJl) (by omega)
              have := HTL.out
              omega
            dsimp only at cv
            rw [hat] at cv
            obtain ⟨x0, hx0⟩ : ∃ x0, x0 = raw F2 := ⟨_, rfl⟩
            rw [← hx0] at cv
            have HF3 : Hid (F2 + 1 = I * y + (J + 1 - (if I = sh then st else 0))) := Lib.hid (by
              rw [HF2.out]
              by_cases e : I = sh
              · have h7 : st ≤ J := by
                  have h6 : s.sh = sh := HSH.out.symm
                  rcases Nat.lt_or_ge J st with h7 | h7
                  · have := Sh.ds_lo (s := s) (j := J) (by rw [← HST.out]; exact h7); omega
                  · exact h7
                rw [if_pos e]; omega
              · rw [if_neg e]; omega)
            have HX0 := Lib.hid hx0
            have hI0 : (0 : Int) ≤ (I : Int) := by omega
            have hGw : G ≤ wi.heap.size := by have := HB2'.out.size; rw [HGE.out]; exact this
            have HGW := Lib.hid hGw
            clear hdj hlen hdx hrow hrr hlc hat hx0 HF2 hrd hbl hrb hGw
            go_wp2_with (at_builtin; refine wpList_push _ _ 41 G 5 (.int .u8 0) 1 _ F2 (rawV raw F2) (.int .u8 (x0 : Nat)) rfl rfl rfl rfl Try.underlying41 Try.infoU8g rfl rfl (by decide) HOW2.out (by omega) HGW.out ?_)
            intro v' w3 hown3 hg3 hb3
            have HO3 : Hid (w3.ownsRow G 5 1 v' (F2 + 1) (rawV raw (F2 + 1))) := Lib.hid (by rw [rawV_succ, ← HX0.out]; exact hown3)
            have HB3 := Lib.hid (HB2'.out.trans hb3)
            clear hown3 hg3 hb3 HOW2 HB2'
            go_wp2_with fail
            go_roundw
            case rel => exact ⟨J + 1, F2 + 1, by omega, by go_num, HF3, HO3, HB3⟩
            case measure => simp [intOf]; omega
          · have hlo1 : ((I : Int) < (dj : Int)) = False := by simp; omega
            have hIs : I = sh ∧ J < st := by
              have h5 := Sh.ds_le s J
              have h6 : s.sh = sh := HSH.out.symm
              rcases Nat.lt_or_ge J st with h7 | h7
              · have := Sh.ds_lo (s := s) (j := J) (by rw [← HST.out]; exact h7); omega
              · have := Sh.ds_hi (s := s) (j := J) (by rw [← HST.out]; exact h7); omega
            have HF3 : Hid (F2 = I * y + (J + 1 - (if I = sh then st else 0))) := Lib.hid (by rw [HF2.out, if_pos hIs.1]; omega)
            clear hIs hdj hlo HF2 hlen hrow hlc hrd hbl
            go_wp2_with fail
            go_roundw
            case rel => exact ⟨J + 1, F2, by omega, by go_num, HF3, HOW2, HB2'⟩
            case measure => simp [intOf]; omega
        · obtain rfl : J = y := by omega
          have hJ1 : ((J : Int) < (J : Int)) = False := by simp
          have HF3 : Hid (F2 = (I + 1) * J - (if I + 1 = sh + 1 then st else 0)) := Lib.hid (by
            rw [HF2.out, Nat.add_mul, Nat.one_mul]
            by_cases e : I = sh
            · rw [if_pos e, if_pos (by omega)]; omega
            · rw [if_neg e, if_neg (by omega)]; omega)
          clear HF2
          go_wp2_with fail
          go_roundw
          case rel => exact ⟨I + 1, F2, by omega, by go_num, HF3, HOW2, HB2'⟩
          case measure => simp [intOf]; omega
    · have hIe : I = sh + 1 := by omega
      have hI1 : ((I : Int) ≤ (sh : Int)) = False := by simp; omega
      have HF4 : Hid (F = sh * y + s.lg + 0 * y) := Lib.hid (by rw [HF.out, if_pos hIe, hIe, Nat.add_mul]; have := HLG.out; omega)
      have HIE := Lib.hid hIe
      clear HF hIe hIl hI
      go_wp2_with fail
      clear d0 hI1
      go_loopw [10, 14] (fun v i wr => ∃ (I F : Nat), I ≤ x ∧ i = .int .i64 I ∧ Hid (F = sh * y + s.lg + I * y) ∧ Hid (wr.ownsRow G 5 1 v F (rawV raw F)) ∧ Hid (Below G w2 wr)) (fun _ i _ => x - (intOf i).toNat)
      case atStart => exact ⟨0, F, by omega, rfl, HF4, HOW, HB⟩
      case round =>
        obtain ⟨I, F, hI, rfl, HF, HOW, HB⟩ := hrel
        clear HF4
        obtain ⟨wo, hwo⟩ : ∃ wo, wo = wr := ⟨_, rfl⟩
        rw [← hwo] at HOW HB ⊢
        clear hwo
        by_cases hIl : I < x
        · have hI1 : (I : Int) < (x : Int) := by omega
          have HF0 : Hid (F = sh * y + s.lg + I * y + 0) := Lib.hid (by rw [HF.out]; omega)
          clear HF
          go_wp2_with fail
          go_loopw [10, 61] (fun v i wr => ∃ (J F : Nat), J ≤ y ∧ i = .int .i64 J ∧ Hid (F = sh * y + s.lg + I * y + J) ∧ Hid (wr.ownsRow G 5 1 v F (rawV raw F)) ∧ Hid (Below G w2 wr)) (fun _ i _ => y - (intOf i).toNat)
          case atStart => exact ⟨0, F, by omega, rfl, HF0, HOW, HB⟩
          case round =>
            obtain ⟨J, F2, hJ, rfl, HF2, HOW2, HB2'⟩ := hrel
            clear HF0 HOW HB
            obtain ⟨wi, hwi⟩ : ∃ wi, wi = wr := ⟨_, rfl⟩
            rw [← hwi] at HOW2 HB2' ⊢
            clear hwi
            by_cases hJl : J < y
            · have hJ1 : (J : Int) < (y : Int) := by omega
              have hJ0 : (0 : Int) ≤ (J : Int) := by omega
              have dJ := (HB2'.out.cell (p := ⟨D, J, none⟩) HIAl.out).trans (HDC.out J hJl)
              obtain ⟨b, off, rfl, hbl, hrow⟩ := (HR2.out.below (by have := HB2'.out; rw [HGE.out] at this; exact this)) hy0
              obtain ⟨B, C, hrc, hlc, hrd⟩ := hrow J hJl
              obtain ⟨dj, hdj⟩ : ∃ dj, dj = s.ds J := ⟨_, rfl⟩
              rw [← hdj] at dJ
              have hlen : s.len J = dj + x := by unfold Sh.len; rw [← hdj, HX.out]
              obtain ⟨Z, hZ⟩ : ∃ Z, Z = dj + I := ⟨_, rfl⟩
              obtain ⟨dx, hdx⟩ : ∃ dx, dx = dj + x := ⟨_, rfl⟩
              rw [hlen, ← hdx] at hrc hlc hrd
              have eZ : (dj : Int) + (I : Int) = (Z : Int) := by omega
              have hlo3 : Z < dx := by omega
              have hlo2 : (Z : Int) < (dx : Int) := by omega
              obtain ⟨rb, ro, rfl, hrb, hrr⟩ := hrd (by omega)
              have cv := hrr Z (by omega)
              have hat : s.at_ J Z = F2 := by rw [hZ, hdj, Sh.at_high, ← HSH.out, HY.out, HF2.out]
              have hF3 : F2 < 13000 := by
                have h8 := Sh.at_lt HO.out (j := J) (i := Z) (by rw [HY.out]; exact hJl) (by omega)
                have := HTL.out
                omega
              have hdj1 : dj ≤ 124 := by have := Sh.ds_le s J; have : s.sh = sh := HSH.out.symm; omega
              dsimp only at cv
              rw [hat] at cv
              obtain ⟨x0, hx0⟩ : ∃ x0, x0 = raw F2 := ⟨_, rfl⟩
              rw [← hx0] at cv
              have HF3 : Hid (F2 + 1 = sh * y + s.lg + I * y + (J + 1)) := Lib.hid (by rw [HF2.out]; omega)
              have HX0 := Lib.hid hx0
              have hZ0 : (0 : Int) ≤ (Z : Int) := by omega
              have hGw : G ≤ wi.heap.size := by have := HB2'.out.size; rw [HGE.out]; exact this
              have HGW := Lib.hid hGw
              clear hdj hlen hdx hrow hrr hlc hat hx0 HF2 hrd hbl hrb hGw hZ
              go_wp2_with (at_builtin; refine wpList_push _ _ 41 G 5 (.int .u8 0) 1 _ F2 (rawV raw F2) (.int .u8 (x0 : Nat)) rfl rfl rfl rfl Try.underlying41 Try.infoU8g rfl rfl (by decide) HOW2.out (by omega) HGW.out ?_)
              intro v' w3 hown3 hg3 hb3
              have HO3 : Hid (w3.ownsRow G 5 1 v' (F2 + 1) (rawV raw (F2 + 1))) := Lib.hid (by rw [rawV_succ, ← HX0.out]; exact hown3)
              have HB3 := Lib.hid (HB2'.out.trans hb3)
              clear hown3 hg3 hb3 HOW2 HB2'
              go_wp2_with fail
              go_roundw
              case rel => exact ⟨J + 1, F2 + 1, by omega, by go_num, HF3, HO3, HB3⟩
              case measure => simp [intOf]; omega
            · obtain rfl : J = y := by omega
              have hJ1 : ((J : Int) < (J : Int)) = False := by simp
              have HF3 : Hid (F2 = sh * J + s.lg + (I + 1) * J) := Lib.hid (by rw [HF2.out, Nat.add_mul]; omega)
              clear HF2
              go_wp2_with fail
              go_roundw
              case rel => exact ⟨I + 1, F2, by omega, by go_num, HF3, HOW2, HB2'⟩
              case measure => simp [intOf]; omega
        · obtain rfl : I = x := by omega
          have hI1 : ((I : Int) < (I : Int)) = False := by simp
          have HFT : Hid (F = s.tot) := Lib.hid (by rw [HF.out]; unfold Sh.tot; rw [HSH.out, HY.out, HX.out])
          have HBW : Hid (Below w.heap.size w wo) := Lib.hid (HB2.out.trans (HB.out.mono (by rw [HGE.out]; exact HB2.out.size)))
          have HOW3 : Hid (wo.ownsRow w.heap.size 5 1 u10 F (rawV raw F)) := Lib.hid ⟨HOW.out.1, HOW.out.2.imp id (fun ⟨g, cap, cur, h1, h2, h3⟩ => ⟨g, cap, cur, h1, by have := HB2.out.size; have := HGE.out; omega, h3⟩)⟩
          go_wp2_with fail
          go_ret
          exact MixPost.mk HFT.out HOW3.out HBW.out
end Go.Proofs.Ytpeipolknphjhaa
