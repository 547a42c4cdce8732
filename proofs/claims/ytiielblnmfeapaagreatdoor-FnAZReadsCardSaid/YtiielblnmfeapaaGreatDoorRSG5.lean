/-
  findErrorMagnitudes, walked. No condition beyond the bounds that the theorem states.
-/
import Derived.Test.YtiielblnmfeapaaGreatDoorRSG6
import Derived.Test.YtiielblnmfeapaaGreatDoorRSD6
import Derived.BigRegion
import Derived.Deep.RegionHeld3
import Derived.Deep.RegionLaw
import Derived.Deep.QuietTactic
import Derived.BigQuiet
namespace Go.Proofs.YtiielblnmfeapaaGreatDoor
open Go.RowKit Go.Qz Go.Qz.RS
set_option linter.unusedVariables false

set_option maxRecDepth 1000000 in
theorem flip_even : ∀ a : Nat, a < 4096 → a &&& 1 = 0 → a ||| 1 = 1 ^^^ a := by decide +kernel
set_option maxRecDepth 1000000 in
theorem flip_odd : ∀ a : Nat, a < 4096 → a &&& 1 ≠ 0 → bits .and .i64 (a : Int) (-2) = ((1 ^^^ a : Nat) : Int) := by decide +kernel

/-- What the last place's inverse reads, at a place that is not there: nothing. -/
theorem nth_drop_cons {K : List Nat} {q : Nat} (hq : q < K.length) : K.drop q = nth K q :: K.drop (q + 1) := drop_nth hq
theorem nodup_nth {K : List Nat} (nd : K.Nodup) {i j : Nat} (hi : i < K.length) (hj : j < K.length) (hne : i ≠ j) : nth K i ≠ nth K j := by
  rw [nth_eq hi, nth_eq hj]
  intro e
  exact hne ((List.getElem_inj nd).1 e)

def MagPost (Y : Nat → Nat) (K : List Nat) (w : World) (e : Ending) (w' : World) : Prop :=
  ∃ A c, e = .returned (.tuple #[.slice A K.length c, .nilIface]) ∧ Rd w' A K.length (fun m => .int .i64 (Y (nth K m) : Nat)) ∧ (∀ a, A = some a → w.heap.size ≤ a.block) ∧ Below w.heap.size w w'

set_option maxRecDepth 100000 in
set_option maxHeartbeats 12800000 in
theorem findMags (F : Fld) (hF : Six F) (Y : Nat → Nat) (hY : ∀ j, Y j < F.size) (hY0 : ∀ j, Y j ≠ 0) (K : List Nat) (D po f c : Nat) (A : Option Addr) (lo : List Nat) (nd : K.Nodup) (hK : ∀ j ∈ K, j < F.size - 1) (hKl : K.length ≤ 1000) (hlo : El F lo) (hlol : lo.length < 10000) (hev : ∀ i ∈ K, ev F lo (inv F (ex F i)) = mul F (mul F (Y i) (ex F (i * F.base))) (levx F (inv F (ex F i)) i K))
    (w : World) (hD : Arr w 150 D [.pointer (some ⟨f, 0, none⟩)]) (hp : PolyQ w (fun _ => True) po f lo) (hg : GFQ w (fun _ => True) f F) (hA : Rd w A K.length (fun m => .int .i64 (ex F (nth K m) : Nat))) :
    Calls Tryz.prog 94 #[.pointer (some ⟨D, 0, none⟩), .pointer (some ⟨po, 0, none⟩), .slice A K.length c] w (MagPost Y K w) := by
  have hs := hF.bounds
  have c0 := hD.cell? 0
  simp only [List.getElem?_cons_zero] at c0
  have hDl := hD.lt
  have HD := Lib.hid hD
  have HP := Lib.hid hp
  have HG := Lib.hid hg
  have HK := Lib.hid hK
  have HND := Lib.hid nd
  have HC := Lib.hid hev
  have HA := Lib.hid hA
  have HYL := Lib.hid hY
  obtain ⟨ν, hν⟩ : ∃ ν, ν = K.length := ⟨_, rfl⟩
  have HN := Lib.hid hν
  have hmk := fun W => run_make1 (P := Tryz.prog) 24 3 (.int .i64 0) 8 Tryz.underlying24 Tryz.infoInt rfl (by decide) ν (by omega) .i64 .i64 (ν : Int) rfl W
  have hI := IA.zeros w 3 ν
  obtain ⟨g, hgd⟩ : ∃ g : Nat → Nat, g = fun m => Y (nth K m) := ⟨_, rfl⟩
  have HGD := Lib.hid hgd
  rw [← upTo_zero ν g] at hI
  have hb0 : Below w.heap.size w (w.alloc (.cells (zeros ν (.int .i64 0)) 3)) := (Below.refl _ _).alloc (Nat.le_refl _) _
  have HMEM : Hid (∀ m, m < ν → nth K m ∈ K) := Lib.hid (fun m hm => nth_mem (by omega))
  have hνl : ν ≤ 1000 := by omega
  have hneq2 : ∀ W, (binOp .neq 44 .nilIface .nilIface).run Tryz.prog W = .ok (.bool false) W := fun W => rfl
  rw [← hν]
  have HLO := Lib.hid hlo
  have HPP : Hid (MagPost Y K w = fun e w' => ∃ A c, e = .returned (.tuple #[.slice A ν c, .nilIface]) ∧ Rd w' A ν (fun m => .int .i64 (Y (nth K m) : Nat)) ∧ (∀ a, A = some a → w.heap.size ≤ a.block) ∧ Below w.heap.size w w') := Lib.hid (by unfold MagPost; rw [← hν])
  rw [HPP.out]
  clear hD hp hg hK nd hev hA hν hgd hY hKl hlo
  go_enter Tryz.func94, Tryz.ntmps94
  go_wp2_with fail
  obtain ⟨W3, hW3⟩ : ∃ W3, W3 = w.alloc (.cells (zeros ν (.int .i64 0)) 3) := ⟨_, rfl⟩
  rw [← hW3] at hI hb0 ⊢
  obtain ⟨R, hR⟩ : ∃ R, R = w.heap.size := ⟨_, rfl⟩
  rw [← hR] at hI hb0 hDl ⊢
  have HRR := Lib.hid hR
  clear hW3 hR hmk c0
  go_loopw [10] (fun i wr => ∃ m : Nat, m ≤ ν ∧ i = .int .i64 m ∧ Hid (IA wr 3 R (upTo ν g m)) ∧ Hid (Below R w wr)) (fun i _ => ν - (intOf i).toNat)
  case atStart => exact ⟨0, by omega, rfl, Lib.hid hI, Lib.hid hb0⟩
  case round =>
    obtain ⟨m, hm, rfl, HIA, HB⟩ := hrel
    clear hI hb0
    by_cases hlt : m < ν
    · have hlt1 : (m : Int) < (ν : Int) := by omega
      have hm0 : (0 : Int) ≤ (m : Int) := by omega
      obtain ⟨i, hi⟩ : ∃ i, i = nth K m := ⟨_, rfl⟩
      have hiK := HMEM.out m hlt
      rw [← hi] at hiK
      have hil := HK.out i hiK
      have hex0 := ex_ne hF hil
      obtain ⟨ab, ao, rfl, hab, hac⟩ := HA.out (by have := HN.out; omega)
      have hba := (HB.out.cell (p := ⟨ab, ao + m, none⟩) (by rw [HRR.out]; exact hab)).trans (hac m (by have := HN.out; omega))
      dsimp only at hba
      rw [← hi] at hba
      have HAC := Lib.hid hac
      have c0 : wr.cell? ⟨D, 0, none⟩ = some (.pointer (some ⟨f, 0, none⟩)) := by
        have := (HB.out.cell (p := ⟨D, 0, none⟩) hDl).trans (HD.out.cell? 0)
        simpa using this
      have HBW : Hid (Below w.heap.size w wr) := Lib.hid (by rw [← HRR.out]; exact HB.out)
      have HG1 := Lib.hid (HG.out.below HBW.out)
      have HINV := Lib.hid (fun W hW => gfInv (fun _ => True) F hF f (ex F i) (exl hF i) hex0 W hW)
      obtain ⟨xi, hxi⟩ : ∃ xi, xi = inv F (ex F i) := ⟨_, rfl⟩
      have HXI := Lib.hid hxi
      rw [← hxi] at HINV
      have hxil : xi < F.size := by rw [hxi]; exact inv_lt hF _
      have hxi0 : xi ≠ 0 := by rw [hxi]; exact inv_pos hF (exl hF i) hex0
      obtain ⟨t, ht⟩ : ∃ t, t = levx F xi i K := ⟨_, rfl⟩
      have htl : t < F.size := by rw [ht]; exact levx_lt hF _ _ _
      have ht0 : t ≠ 0 := by rw [ht, hxi]; exact levx_ne hF hil K HK.out
      have HT := Lib.hid ht
      have HI := Lib.hid hi
      have HIL := Lib.hid hil
      have HEV : Hid (ev F lo xi = mul F (mul F (Y i) (ex F (i * F.base))) t) := Lib.hid (by
        rw [hxi, HC.out i hiK, ← hxi, ← ht])
      have exv := exl hF i
      obtain ⟨ei, hei⟩ : ∃ ei, ei = ex F i := ⟨_, rfl⟩
      rw [← hei] at hba HINV exv
      clear hac hi hiK hex0 hxi ht hei
      go_wp2_with fail
      go_quiet ((go_at_call 111; exact quietN (HINV.out _ (HG1.out.drewN _))))
      have HB1 := Lib.hid (below_drewN HB.out nq)
      have HIA1 : Hid (IA (wr.drewN nq) 3 R (upTo ν g m)) := Lib.hid HIA.out
      obtain ⟨W4, hW4⟩ : ∃ W4, W4 = wr.drewN nq := ⟨_, rfl⟩
      rw [← hW4] at HB1 HIA1 ⊢
      clear hW4 HIA HB c0 hba HBW HG1 HINV
      go_wp2_with fail
      go_loopw [13, 14] (fun dn j wr => ∃ q d : Nat, q ≤ ν ∧ j = .int .i64 q ∧ dn = .int .i64 d ∧ d < F.size ∧ Hid (mul F d (levx F xi i (K.drop q)) = t) ∧ Hid (IA wr 3 R (upTo ν g m)) ∧ Hid (Below R w wr)) (fun _ j _ => ν - (intOf j).toNat)
      case atStart => exact ⟨0, 1, by omega, rfl, rfl, by omega, Lib.hid (by rw [List.drop_zero, ← HT.out, one_mul hF htl]), HIA1, HB1⟩
      case round =>
        obtain ⟨q, d, hq, rfl, rfl, hdl, HDN, HIA2, HB2⟩ := hrel
        clear HIA1 HB1
        by_cases hltq : q < ν
        · have hltq1 : (q : Int) < (ν : Int) := by omega
          have hdrop := nth_drop_cons (K := K) (q := q) (by have := HN.out; omega)
          by_cases hqm : q = m
          · subst hqm
            have hne : ((q : Int) != (q : Int)) = false := by simp
            have HDN2 : Hid (mul F d (levx F xi i (K.drop (q + 1))) = t) := Lib.hid (by
              have e := HDN.out
              rw [hdrop, ← HI.out] at e
              unfold levx at e
              rw [if_pos rfl] at e
              exact e)
            clear hdrop HDN
            go_wp2_with fail
            go_roundw
            case rel => exact ⟨q + 1, d, by omega, by go_num, rfl, hdl, HDN2, HIA2, HB2⟩
            case measure => simp [intOf]; omega
          · have hne : ((m : Int) != (q : Int)) = true := by simp; omega
            have hq0 : (0 : Int) ≤ (q : Int) := by omega
            obtain ⟨k, hk⟩ : ∃ k, k = nth K q := ⟨_, rfl⟩
            have hki : k ≠ i := by
              rw [hk, HI.out]
              exact nodup_nth HND.out (by have := HN.out; omega) (by have := HN.out; omega) hqm
            have HDN2 : Hid (mul F (mul F d (1 ^^^ mul F (ex F k) xi)) (levx F xi i (K.drop (q + 1))) = t) := Lib.hid (by
              have e := HDN.out
              rw [hdrop, ← hk] at e
              exact den_step hF hdl hki e)
            have hba := (HB2.out.cell (p := ⟨ab, ao + q, none⟩) (by rw [HRR.out]; exact hab)).trans (HAC.out q (by have := HN.out; omega))
            rw [← hk] at hba
            have c0 : wr.cell? ⟨D, 0, none⟩ = some (.pointer (some ⟨f, 0, none⟩)) := by
              have := (HB2.out.cell (p := ⟨D, 0, none⟩) hDl).trans (HD.out.cell? 0)
              simpa using this
            have HBW : Hid (Below w.heap.size w wr) := Lib.hid (by rw [← HRR.out]; exact HB2.out)
            have HG1 := Lib.hid (HG.out.below HBW.out)
            have hexk := exl hF k
            have HMU := Lib.hid (fun W hW => gfMul (fun _ => True) F hF f (ex F k) xi hexk hxil W hW)
            have htl2 := mul_lt hF (b := xi) hexk
            have hfl := fac_lt hF k xi
            have HMU2 := Lib.hid (fun W hW => gfMul (fun _ => True) F hF f d (1 ^^^ mul F (ex F k) xi) hdl hfl W hW)
            obtain ⟨T, hT⟩ : ∃ T, T = mul F (ex F k) xi := ⟨_, rfl⟩
            rw [← hT] at HMU htl2 HMU2 HDN2 hfl
            have hT4 : T < 4096 := by omega
            have hfe := flip_even T hT4
            have hfo := flip_odd T hT4
            obtain ⟨U, hU⟩ : ∃ U, U = 1 ^^^ T := ⟨_, rfl⟩
            rw [← hU] at HMU2 HDN2 hfl hfe hfo
            have hdl2 := mul_lt hF (b := U) hdl
            obtain ⟨d2, hd2⟩ : ∃ d2, d2 = mul F d U := ⟨_, rfl⟩
            rw [← hd2] at HMU2 HDN2 hdl2
            have hand := i64_and T 1 (by omega) (by omega)
            have hor := i64_or T 1 (by omega) (by omega)
            obtain ⟨ek, hek⟩ : ∃ ek, ek = ex F k := ⟨_, rfl⟩
            rw [← hek] at hba HMU hexk
            obtain ⟨a1, ha1⟩ : ∃ a1, a1 = T &&& 1 := ⟨_, rfl⟩
            rw [← ha1] at hand hfe hfo
            have hand2 : bits .and .i64 (T : Int) 1 = (a1 : Int) := hand
            have hor2 : bits .or .i64 (T : Int) 1 = ((T ||| 1 : Nat) : Int) := hor
            clear hdrop HDN hki hk hT hU hd2 hek ha1 hand hor
            by_cases hz : a1 = 0
            · have hz1 : ((a1 : Int) == 0) = true := by simp [hz]
              rw [hfe hz] at hor2
              clear hfe hfo hz
              go_wp2_with fail
              go_quiet ((go_at_call 106; exact quietN (HMU.out _ (HG1.out.drewN _))))
              have HB3 := Lib.hid (below_drewN HB2.out nq)
              have HIA3 : Hid (IA (wr.drewN nq) 3 R (upTo ν g m)) := Lib.hid HIA2.out
              have c1 : (wr.drewN nq).cell? ⟨D, 0, none⟩ = some (.pointer (some ⟨f, 0, none⟩)) := c0
              have HG2 := Lib.hid (HG1.out.drewN nq)
              obtain ⟨W5, hW5⟩ : ∃ W5, W5 = wr.drewN nq := ⟨_, rfl⟩
              rw [← hW5] at HB3 HIA3 c1 HG2 ⊢
              clear hW5 HIA2 HB2 c0 hba HBW HG1 HMU
              go_wp2_with fail
              refine (HMU2.out _ HG2.out).mono ?_
              rintro e w1 ⟨rfl, n2, rfl⟩
              have HB4 := Lib.hid (below_drewN HB3.out n2)
              have HIA4 : Hid (IA (W5.drewN n2) 3 R (upTo ν g m)) := Lib.hid HIA3.out
              clear HB3 HIA3 c1 HG2 HMU2
              go_wp2_with fail
              go_roundw
              case rel => exact ⟨q + 1, d2, by omega, by go_num, rfl, hdl2, HDN2, HIA4, HB4⟩
              case measure => simp [intOf]; omega
            · have hz1 : ((a1 : Int) == 0) = false := by simp [hz]
              have hfo2 := hfo hz
              clear hfe hfo hz hor2
              go_wp2_with fail
              go_quiet ((go_at_call 106; exact quietN (HMU.out _ (HG1.out.drewN _))))
              have HB3 := Lib.hid (below_drewN HB2.out nq)
              have HIA3 : Hid (IA (wr.drewN nq) 3 R (upTo ν g m)) := Lib.hid HIA2.out
              have c1 : (wr.drewN nq).cell? ⟨D, 0, none⟩ = some (.pointer (some ⟨f, 0, none⟩)) := c0
              have HG2 := Lib.hid (HG1.out.drewN nq)
              obtain ⟨W5, hW5⟩ : ∃ W5, W5 = wr.drewN nq := ⟨_, rfl⟩
              rw [← hW5] at HB3 HIA3 c1 HG2 ⊢
              clear hW5 HIA2 HB2 c0 hba HBW HG1 HMU
              go_wp2_with fail
              refine (HMU2.out _ HG2.out).mono ?_
              rintro e w1 ⟨rfl, n2, rfl⟩
              have HB4 := Lib.hid (below_drewN HB3.out n2)
              have HIA4 : Hid (IA (W5.drewN n2) 3 R (upTo ν g m)) := Lib.hid HIA3.out
              clear HB3 HIA3 c1 HG2 HMU2
              go_wp2_with fail
              go_roundw
              case rel => exact ⟨q + 1, d2, by omega, by go_num, rfl, hdl2, HDN2, HIA4, HB4⟩
              case measure => simp [intOf]; omega
        · obtain rfl : q = ν := by omega
          have hdt : d = t := by
            have e := HDN.out
            rw [List.drop_eq_nil_of_le (by have := HN.out; omega)] at e
            rw [← e]
            exact (mul_one hF hdl).symm
          subst hdt
          have hx : ((q : Int) < (q : Int)) = False := by simp
          have c0 : wr.cell? ⟨D, 0, none⟩ = some (.pointer (some ⟨f, 0, none⟩)) := by
            have := (HB2.out.cell (p := ⟨D, 0, none⟩) hDl).trans (HD.out.cell? 0)
            simpa using this
          have HBW : Hid (Below w.heap.size w wr) := Lib.hid (by rw [← HRR.out]; exact HB2.out)
          have HG1 := Lib.hid (HG.out.below HBW.out)
          have HINV := Lib.hid (fun W hW => gfInv (fun _ => True) F hF f d hdl ht0 W hW)
          obtain ⟨hm0b, hm1b⟩ := magn hF (y := Y i) (i := i) (b := F.base) (l := d) (HYL.out i) (HIL.out) hdl ht0 hs.2.2.2
          have hvl := mul_lt hF (b := inv F d) (mul_lt hF (b := d) (mul_lt hF (b := ex F (i * F.base)) (HYL.out i)))
          rw [← HEV.out] at hm0b hm1b hvl
          have hevl := ev_lt hF HLO.out xi
          obtain ⟨v0, hv0⟩ : ∃ v0, v0 = ev F lo xi := ⟨_, rfl⟩
          rw [← hv0] at hm0b hm1b hvl hevl
          have HV0 := Lib.hid hv0
          have hil := inv_lt hF d
          obtain ⟨iv, hiv⟩ : ∃ iv, iv = inv F d := ⟨_, rfl⟩
          rw [← hiv] at HINV hm0b hm1b hvl hil
          have HMU := fun W hW => gfMul (fun _ => True) F hF f v0 iv hevl hil W hW
          obtain ⟨v1, hv1⟩ : ∃ v1, v1 = mul F v0 iv := ⟨_, rfl⟩
          rw [← hv1] at HMU hm0b hm1b hvl
          have HMU := Lib.hid HMU
          have HMB0 := Lib.hid hm0b
          have HMB1 := Lib.hid hm1b
          clear hv0 hiv hv1 hdl HDN hltq hm0b hm1b
          go_wp2_with fail
          refine (HINV.out _ HG1.out).mono ?_
          rintro e w1 ⟨rfl, n2, rfl⟩
          have HB3 := Lib.hid (below_drewN HB2.out n2)
          have HIA3 : Hid (IA (wr.drewN n2) 3 R (upTo q g m)) := Lib.hid HIA2.out
          obtain ⟨W5, hW5⟩ : ∃ W5, W5 = wr.drewN n2 := ⟨_, rfl⟩
          rw [← hW5] at HB3 HIA3 ⊢
          clear hW5 HIA2 HB2 c0 HBW HG1 HINV
          have hul := upTo_length q g m
          have hcz := HIA3.out.cell (j := m) (by omega)
          rw [upTo_nth _ _ _ _ hlt, if_neg (by omega)] at hcz
          have hfz := HIA3.out.free m
          have HI4 := Lib.hid (HIA3.out.set_ m v1)
          have hb3 := HB3.out.setCell (p := ⟨R, m, none⟩) (Nat.le_refl _) (.int .i64 (v1 : Nat))
          have hS : ∀ W : World, Below R w W → (W.cell? ⟨D, 0, none⟩ = some (.pointer (some ⟨f, 0, none⟩)) ∧ Hid (Below R w W)) := fun W hW =>
            ⟨by have := (hW.cell (p := ⟨D, 0, none⟩) hDl).trans (HD.out.cell? 0); simpa using this, Lib.hid hW⟩
          have HX := Lib.hid (fun (W : World) (hW : W.cell? ⟨D, 0, none⟩ = some (.pointer (some ⟨f, 0, none⟩)) ∧ Hid (Below R w W)) =>
            (HMU.out W (HG.out.below (by rw [← HRR.out]; exact hW.2.out))))
          have HXE := Lib.hid (fun (W : World) (hW : W.cell? ⟨D, 0, none⟩ = some (.pointer (some ⟨f, 0, none⟩)) ∧ Hid (Below R w W)) =>
            ((polyAt (fun _ => True) F hF po f xi (xi : Int) rfl lo hxil hxi0 HLO.out hlol W (HP.out.below (by rw [← HRR.out]; exact hW.2.out)) (HG.out.below (by rw [← HRR.out]; exact hW.2.out))).mono (R' := fun e w' => e = .returned (.int .i64 (v0 : Nat)) ∧ ∃ n, w' = W.drewN n) (by rintro e w' ⟨rfl, n, rfl⟩; exact ⟨by rw [HV0.out], n, rfl⟩)))
          have hs0 := hS _ HB3.out.drew
          have hs2 := hS _ hb3
          have hs3 := fun n => hS _ (below_drewN hb3 n)
          have hs4 := fun n => hS _ (below_drewN HB3.out n)
          have d0 := hs0.1
          have HB4 := Lib.hid hb3
          clear hb3 hul hS HMU HB3
          go_wp2_with fail
          go_region_held3 (fun w' => w'.cell? ⟨D, 0, none⟩ = some (.pointer (some ⟨f, 0, none⟩)) ∧ Hid (Below R w w'))
            (first | exact hs0 | exact hs2 | exact hs3 _ | exact hs4 _ | go_keep)
            (first | (go_at_call 106; refine (HX.out _ (by assumption)).mono ?_; rintro e w3 ⟨rfl, n, rfl⟩) | (go_at_call 88; refine (HXE.out _ (by assumption)).mono ?_; rintro e w3 ⟨rfl, n, rfl⟩))
          rename_i n3 hHd
          obtain ⟨n4, hn4⟩ : ∃ n4, n4 = n := ⟨_, rfl⟩
          rw [← hn4] at hHd ⊢
          clear hn4
          have hx0 := hHd.1
          have HB5 := hHd.2
          have HI5 : Hid (IA ((W5.drewN (1 + n3 + n4)).setCell ⟨R, m, none⟩ (.int .i64 (v1 : Nat))) 3 R ((upTo q g m).set m v1)) :=
            Lib.hid ((show IA (W5.drewN (1 + n3 + n4)) 3 R (upTo q g m) from HIA3.out).set_ m v1)
          obtain ⟨W6, hW6⟩ : ∃ W6, W6 = (W5.drewN (1 + n3 + n4)).setCell ⟨R, m, none⟩ (.int .i64 (v1 : Nat)) := ⟨_, rfl⟩
          rw [← hW6] at HB5 HI5 hx0 ⊢
          clear hHd hW6 HB4 HI4 HX HXE hs0 hs2 hs3 hs4 d0 hcz hfz HIA3 hevl HV0 hil
          have HG2 := Lib.hid (HG.out.below (by rw [← HRR.out]; exact HB5.out))
          have HGB := Lib.hid (getBase (fun _ => True) F f W6 HG2.out)
          have hlen := upTo_length q g m
          have hcm := HI5.out.cell (j := m) (by rw [List.length_set]; omega)
          rw [show nth ((upTo q g m).set m v1) m = v1 from by rw [nth_eq (by rw [List.length_set]; omega)]; simp] at hcm
          have hfm := HI5.out.free m
          clear hlen
          have hgm : g m = Y i := by rw [HGD.out, HI.out]
          by_cases hbz : F.base = 0
          · have hv1 : v1 = Y i := HMB0.out hbz
            have HI6 : Hid (IA W6 3 R (upTo q g (m + 1))) := Lib.hid (by rw [← upTo_set, hgm, ← hv1]; exact HI5.out)
            rw [hbz] at HGB
            clear hgm hv1 HMB0 HMB1 HI5 hcm hfm
            have hz0 : ((0 : Int) != 0) = false := by simp
            go_wp2_with fail
            refine HGB.out.mono ?_
            rintro e w1 ⟨rfl, rfl⟩
            go_wp2_with fail
            go_roundw
            case rel => exact ⟨m + 1, by omega, by go_num, HI6, HB5⟩
            case measure => simp [intOf]; omega
          · have hbz1 : ((F.base : Int) != 0) = true := by simp; omega
            have hv2 : mul F v1 xi = Y i := by rw [HXI.out]; exact HMB1.out hbz
            have hyl := HYL.out i
            obtain ⟨v2, hv2e⟩ : ∃ v2, v2 = Y i := ⟨_, rfl⟩
            rw [← hv2e] at hv2 hyl hgm
            have HM2 := Lib.hid (fun (W : World) (hW : GFQ W (fun _ => True) f F) => (gfMul (fun _ => True) F hF f v1 xi hvl hxil W hW).mono (R' := fun e w' => e = .returned (.int .i64 (v2 : Nat)) ∧ ∃ n, w' = W.drewN n) (by rintro e w' ⟨rfl, n, rfl⟩; exact ⟨by rw [hv2], n, rfl⟩))
            have hst : ((upTo q g m).set m v1).set m v2 = upTo q g (m + 1) := by rw [List.set_set, ← upTo_set, hgm]
            have HST := Lib.hid hst
            have HGD2 := Lib.hid (fun n => HG2.out.drewN n)
            clear hgm hv2 hv2e HMB0 HMB1 hst HMU
            go_wp2_with fail
            refine HGB.out.mono ?_
            rintro e w1 ⟨rfl, rfl⟩
            go_wp2_with fail
            go_region_law (first | (go_simp; go_at_call 106; refine (HM2.out _ (by first | exact HG2.out | exact HGD2.out _)).mono ?_; rintro e w3 ⟨rfl, n, rfl⟩))
            all_goals
              have HI7 := Lib.hid (HI5.out.set_ m v2)
              rw [HST.out] at HI7
              have HB7 := Lib.hid (HB5.out.setCell (p := ⟨R, m, none⟩) (Nat.le_refl _) (.int .i64 (v2 : Nat)))
              go_wp2_with fail
              go_roundw
              case rel => exact ⟨m + 1, by omega, by go_num, Lib.hid HI7.out, Lib.hid (below_drewN HB7.out _)⟩
              case measure => simp [intOf]; omega
    · obtain rfl : m = ν := by omega
      have hx : ((m : Int) < (m : Int)) = False := by simp
      have HRD : Hid (Rd wr (some ⟨R, 0, none⟩) m (fun m => .int .i64 (Y (nth K m) : Nat))) := Lib.hid (fun h0 => ⟨R, 0, rfl, HIA.out.lt, fun j hj => by
        rw [Nat.zero_add, HIA.out.cell (j := j) (by rw [upTo_length]; exact hj), upTo_nth _ _ _ _ hj, if_pos hj, HGD.out]⟩)
      have HBW : Hid (Below w.heap.size w wr) := Lib.hid (by rw [← HRR.out]; exact HB.out)
      clear hlt
      go_wp2_with fail
      go_ret2
      exact ⟨_, m, rfl, HRD.out, fun a ha => by cases ha; exact Nat.le_of_eq HRR.out.symm, HBW.out⟩
end Go.Proofs.YtiielblnmfeapaaGreatDoor
