/-
  Decode, walked. No condition beyond the bounds that the theorem states.
-/
import Derived.Test.YtiielblnmfeapaaGreatDoorRSG6
import Derived.Test.YtiielblnmfeapaaGreatDoorRSG3
import Derived.Test.YtiielblnmfeapaaGreatDoorRSG5
import Derived.BigRegion
import Derived.Deep.RegionHeld3
import Derived.Deep.RegionLaw
import Derived.Deep.QuietTactic
import Derived.BigQuiet
namespace Go.Proofs.YtiielblnmfeapaaGreatDoor
open Go.RowKit Go.Qz Go.Qz.RS
set_option linter.unusedVariables false

def DecPost (ab : Nat) (L : List Nat) (spare : List Value) (w : World) (e : Ending) (w' : World) : Prop :=
  e = .returned .nilIface ∧ Arr w' 3 ab (ints L ++ spare) ∧ Mod (· = ab) w w'

set_option maxRecDepth 100000 in
set_option maxHeartbeats 12800000 in
theorem decode (F : Fld) (hF : Six F) (M n : Nat) (hM : 2 ≤ M) (hMl : M ≤ 2000) (hMs : M + 1 < F.size) (L R J : List Nat) (Y : Nat → Nat) (hY : ∀ j, Y j < F.size) (hY0 : ∀ j, Y j ≠ 0) (hL : El F L) (hR : El F R) (nd : J.Nodup) (hJ : ∀ j ∈ J, j < L.length) (hν : 2 * J.length ≤ M) (hn : n = L.length) (hn0 : 0 < n) (hnl : n ≤ F.size - 1)
    (hroot : ∀ i, i < M → ev F L (ex F (i + F.base)) = 0) (hr : Rcv F Y L R J) (D f ab c : Nat) (spare : List Value) (w : World) (hc : n ≤ c)
    (hD : Arr w 150 D [.pointer (some ⟨f, 0, none⟩)]) (hDa : D ≠ ab) (hg : GFQ w (fun k => k ≠ ab) f F) (ha : Arr w 3 ab (ints R ++ spare)) :
    Calls Tryz.prog 65 #[.pointer (some ⟨D, 0, none⟩), .slice (some ⟨ab, 0, none⟩) n c, .int .i64 M] w (DecPost ab L spare w) := by
  have hs := hF.bounds
  have hrl := hr.len
  have hJs : ∀ j ∈ J, j < F.size - 1 := fun j hj => by have := hJ j hj; omega
  have hJb : ∀ j ∈ J, ex F (j * F.base) ≠ 0 := fun j hj => ex_ne hF (by
    have := hJs j hj
    rcases (show F.base = 0 ∨ F.base = 1 by omega) with e | e <;> rw [e] <;> omega)
  obtain ⟨s, hsd⟩ : ∃ s : Nat → Nat, s = fun i => ev F R (ex F (i + F.base)) := ⟨_, rfl⟩
  have hsl : ∀ i, s i < F.size := fun i => by rw [hsd]; exact ev_lt hF hR _
  have hss : ∀ i, i < M → s i = (syn Y hY F.base J : Ser F hF).c i := fun i hi => by rw [hsd]; exact sx_syn hF hL hr nd hJ (hroot i hi)
  have HNE : Hid ((∀ k, k < M → s k = 0) → R = L) := Lib.hid (fun h0 => by
    have e : J = [] := no_err (h := hF) (hY := hY) (b := F.base) hY0 nd hJs hJb (M := M) (by omega) (fun i hi => by rw [← hss i hi]; exact h0 i hi)
    have h2 : Rcv F Y L R [] := e ▸ hr
    exact h2.done)
  have HFIN := Lib.hid (syl_fin hF (hY := hY) (b := F.base) hY0 nd hJs hJb hν hsl hss)
  have HEU : Hid (∀ X, Syl M s M X → EuInv (synS hF s hsl M) M (monL M 1) (tidy X) [0] [1]) := Lib.hid (fun X h => h.eu hF hsl hM)
  have HR := Lib.hid hr
  have HRE := Lib.hid hR
  have HSD := Lib.hid hsd
  have HY := Lib.hid hY
  have HY0 := Lib.hid hY0
  have HND := Lib.hid nd
  have HJ := Lib.hid hJ
  have HJS := Lib.hid hJs
  have HD := Lib.hid hD
  have HG := Lib.hid hg
  have HG0 := Lib.hid (hg.imp (Q' := fun _ => True) (fun _ _ => trivial))
  have HA := Lib.hid ha
  have hal := ha.lt
  have hDl := hD.lt
  have c0 := hD.cell? 0
  simp only [List.getElem?_cons_zero] at c0
  have hRne : R ≠ [] := by intro e; rw [e] at hrl; simp at hrl; omega
  have hSR : SlQ w (fun _ => True) (some ⟨ab, 0, none⟩) R c := ⟨by omega, fun _ => ⟨ab, 0, rfl, trivial, hal, fun j hj => by rw [Nat.zero_add, ha.cell? j]; exact intsS_get spare hj⟩⟩
  have HPN0 := poly_new (fun _ => True) f (some ⟨ab, 0, none⟩) R c w (fun _ _ => trivial) hRne (by omega) hSR
  rw [show R.length = n by omega] at HPN0
  have HPN := Lib.hid HPN0
  have HN := Lib.hid hn
  have HRN : Hid (R.length = n) := Lib.hid (by omega)
  have hneq2 : ∀ W, (binOp .neq 44 .nilIface .nilIface).run Tryz.prog W = .ok (.bool false) W := fun W => rfl
  have hmk := fun W => run_make1 (P := Tryz.prog) 24 3 (.int .i64 0) 8 Tryz.underlying24 Tryz.infoInt rfl (by decide) M (by omega) .i64 .i64 (M : Int) rfl W
  have HGB := Lib.hid (fun W hW => getBase (fun _ => True) F f W hW)
  clear hrl hJb hss hroot hr hL hR nd hJ hJs hY0 hsd hD hg ha hRne hSR hn HPN0
  go_enter Tryz.func65, Tryz.ntmps65
  go_wp2_with fail
  refine HPN.out.mono ?_
  rintro e w1 ⟨po, rfl, hpo, hb1, _⟩
  have HPO := Lib.hid hpo
  have HB1 := Lib.hid hb1
  have hsz1 := hb1.size
  clear hpo hb1 HPN
  go_wp2_with fail
  obtain ⟨SB, hSB⟩ : ∃ SB, SB = w1.heap.size := ⟨_, rfl⟩
  have hI := IA.zeros w1 3 M
  have hb2 : Below w1.heap.size w1 (w1.alloc (.cells (zeros M (.int .i64 0)) 3)) := (Below.refl _ _).alloc (Nat.le_refl _) _
  obtain ⟨W2, hW2⟩ : ∃ W2, W2 = w1.alloc (.cells (zeros M (.int .i64 0)) 3) := ⟨_, rfl⟩
  rw [← hW2] at hI hb2 ⊢
  rw [← hSB] at hI hb2 hsz1 ⊢
  have HSB := Lib.hid hSB
  clear hW2 hSB hmk c0
  go_loopw [10, 11] (fun b i wr => ∃ (m : Nat) (bb : Bool), m ≤ M ∧ i = .int .i64 m ∧ b = .bool bb ∧ Hid (bb = true ↔ ∀ k, k < m → s k = 0) ∧ Hid (∃ X, Syl M s m X ∧ IA wr 3 SB X) ∧ Hid (Below SB w1 wr)) (fun _ i _ => M - (intOf i).toNat)
  case atStart => exact ⟨0, true, by omega, rfl, rfl, Lib.hid ⟨fun _ k hk => by omega, fun _ => rfl⟩, Lib.hid ⟨_, Syl.start M s, hI⟩, Lib.hid hb2⟩
  case round =>
    obtain ⟨m, bb, hm, rfl, rfl, HBB, HX, HB⟩ := hrel
    clear hI hb2
    have HBW : Hid (Below w.heap.size w wr) := Lib.hid (HB1.out.trans (HB.out.mono (by omega)))
    have c0 : wr.cell? ⟨D, 0, none⟩ = some (.pointer (some ⟨f, 0, none⟩)) := by
      have := (HBW.out.cell (p := ⟨D, 0, none⟩) hDl).trans (HD.out.cell? 0)
      simpa using this
    have HG1 := Lib.hid (HG0.out.below HBW.out)
    by_cases hlt : m < M
    · have hlt1 : (m : Int) < (M : Int) := by omega
      have HPO1 := Lib.hid (HPO.out.below (by rw [← HSB.out]; exact HB.out))
      obtain ⟨mb, hmb⟩ : ∃ mb, mb = m + F.base := ⟨_, rfl⟩
      have hw0 : IntKind.i64.wrap ((m : Int) + (F.base : Int)) = (mb : Int) := by rw [IntKind.wrap_i64]; omega
      have hmbl : mb < F.size - 1 := by omega
      have HEX := fun W hW => gfExp (fun _ => True) F hF f mb (by omega) W hW
      have hxl := exl hF mb
      have hx0 := ex_ne hF hmbl
      have HAT := fun W hW hG => polyAt (fun _ => True) F hF po f (ex F mb) (ex F mb : Nat) rfl (tidy R) hxl hx0 (El.tidy HRE.out) (by have := tidy_length R; have := HRN.out; omega) W hW hG
      rw [ev_tidy hF, show ev F R (ex F mb) = s m by rw [HSD.out, hmb]] at HAT
      obtain ⟨x, hx⟩ : ∃ x, x = ex F mb := ⟨_, rfl⟩
      rw [← hx] at HAT HEX hxl hx0
      obtain ⟨v, hv⟩ : ∃ v, v = s m := ⟨_, rfl⟩
      rw [← hv] at HAT
      have HAT := Lib.hid HAT
      have HEX := Lib.hid HEX
      have HV := Lib.hid hv
      obtain ⟨k, hk⟩ : ∃ k, k = M - 1 - m := ⟨_, rfl⟩
      have hw1 : IntKind.i64.wrap ((M : Int) - 1) = (M : Int) - 1 := by rw [IntKind.wrap_i64]; omega
      have hw2 : IntKind.i64.wrap ((M : Int) - 1 - (m : Int)) = (k : Int) := by rw [IntKind.wrap_i64]; omega
      have hk0 : (0 : Int) ≤ (k : Int) := by omega
      have hk1 : (k : Int) < (M : Int) := by omega
      have hk2 : k < M := by omega
      have HK := Lib.hid hk
      clear hmb hx hv hk
      go_wp2_with fail
      go_quiet ((first | (go_at_call 90; exact quietL (HGB.out _ (HG1.out.drewN _))) | (go_at_call 89; exact quietL (HEX.out _ (HG1.out.drewN _))) | (go_at_call 88; exact quietN (HAT.out _ (HPO1.out.drewN _) (HG1.out.drewN _)))))
      obtain ⟨X, hsyl, hix⟩ := HX.out
      have HIX1 : Hid (IA (wr.drewN nq) 3 SB X) := Lib.hid hix
      have HB2 := Lib.hid (below_drewN HB.out nq)
      have HSY := Lib.hid hsyl
      obtain ⟨W4, hW4⟩ : ∃ W4, W4 = wr.drewN nq := ⟨_, rfl⟩
      rw [← hW4] at HIX1 HB2 ⊢
      have hXl := hsyl.1
      have hcz := HIX1.out.cell (j := k) (by omega)
      have hfz := HIX1.out.free k
      have HI2 := Lib.hid (HIX1.out.set_ k v)
      have HS2 : Hid (Syl M s (m + 1) (X.set k v)) := Lib.hid (by rw [HK.out, HV.out]; exact HSY.out.next hlt)
      have HB3 := Lib.hid (HB2.out.setCell (p := ⟨SB, k, none⟩) (Nat.le_refl _) (.int .i64 (v : Nat)))
      clear hsyl hix HX HB hW4 c0 HG1 HBW HPO1 HAT HEX
      by_cases hv0 : v = 0
      · have hv1 : ((v : Int) != 0) = false := by simpa using hv0
        have HBB2 : Hid (bb = true ↔ ∀ k, k < m + 1 → s k = 0) := Lib.hid ⟨fun h k hk => by
          rcases Nat.lt_succ_iff_lt_or_eq.1 hk with h1 | h1
          · exact HBB.out.1 h k h1
          · rw [h1, ← HV.out]; exact hv0, fun h => HBB.out.2 fun k hk => h k (by omega)⟩
        clear hv0
        go_wp2_with fail
        go_roundw
        case rel => exact ⟨m + 1, bb, by omega, by go_num, rfl, HBB2, Lib.hid ⟨_, HS2.out, HI2.out⟩, HB3⟩
        case measure => simp [intOf]; omega
      · have hv1 : ((v : Int) != 0) = true := by simpa using hv0
        have HBB2 : Hid (false = true ↔ ∀ k, k < m + 1 → s k = 0) := Lib.hid ⟨fun h => Bool.noConfusion h, fun h => absurd (HV.out.trans (h m (by omega))) hv0⟩
        clear hv0
        go_wp2_with fail
        go_roundw
        case rel => exact ⟨m + 1, false, by omega, by go_num, rfl, HBB2, Lib.hid ⟨_, HS2.out, HI2.out⟩, HB3⟩
        case measure => simp [intOf]; omega
    · obtain rfl : m = M := by omega
      have hx : ((m : Int) < (m : Int)) = False := by simp
      clear hlt
      cases bb with
      | true =>
        have HRL := Lib.hid (HNE.out (HBB.out.1 rfl))
        have HFA : Hid (Arr wr 3 ab (ints L ++ spare)) := Lib.hid (by rw [← HRL.out]; exact HA.out.below HBW.out hal)
        go_wp2_with fail
        go_ret
        exact ⟨rfl, HFA.out, Mod.of_below HBW.out⟩
      | false =>
        obtain ⟨X, hsyl, hix⟩ := HX.out
        have hXl := hsyl.1
        have hXne : X ≠ [] := by intro e; rw [e] at hXl; simp at hXl; omega
        have HSX : SlQ wr (fun _ => True) (some ⟨SB, 0, none⟩) X m := ⟨by omega, fun _ => ⟨SB, 0, rfl, trivial, hix.lt, fun j hj => by rw [Nat.zero_add]; exact hix.cell hj⟩⟩
        have HP0 := poly_new (fun _ => True) f (some ⟨SB, 0, none⟩) X m wr (fun _ _ => trivial) hXne (by omega) HSX
        rw [hXl] at HP0
        have HPS := Lib.hid HP0
        have HEUX := Lib.hid (HEU.out X hsyl)
        have HTL : Hid ((tidy X).length ≤ m) := Lib.hid (by have := tidy_length X; omega)
        clear hsyl hix HX HSX HP0 hXne hXl HB
        go_wp2_with fail
        refine HPS.out.mono ?_
        rintro e w3 ⟨p2, rfl, hp2, hb3, _⟩
        have HB3 := Lib.hid (HBW.out.trans (hb3.mono HBW.out.size))
        have HP2 := Lib.hid hp2
        have d3 : w3.cell? ⟨D, 0, none⟩ = some (.pointer (some ⟨f, 0, none⟩)) := by
          have := (HB3.out.cell (p := ⟨D, 0, none⟩) hDl).trans (HD.out.cell? 0)
          simpa using this
        have HG3 := Lib.hid (HG0.out.below HB3.out)
        have HMO := Lib.hid (gfMono (fun _ => True) F hF f m 1 (m : Int) rfl (by omega) (by omega) w3 (fun _ _ => trivial) HG3.out)
        clear c0 hp2 hb3 HPS HG1 HBW
        go_wp2_with fail
        refine HMO.out.mono ?_
        rintro e w4 ⟨p3, rfl, hp3, hb4⟩
        have HB4 := Lib.hid (HB3.out.trans (hb4.mono HB3.out.size))
        have HP2' := Lib.hid (HP2.out.below hb4)
        have HP3 := Lib.hid hp3
        have HG4 := Lib.hid (HG0.out.below HB4.out)
        have HD4 := Lib.hid (HD.out.below HB4.out hDl)
        have HEC := Lib.hid (euclid F hF (synS hF s hsl m) (loc J : Ser F hF).c (evl Y hY F.base J : Ser F hF).c m D p3 p2 f hM hMl (tidy X) HTL.out HEUX.out HFIN.out (loc_0 J) (loc J : Ser F hF).lt (evl Y hY F.base J : Ser F hF).lt w4 HD4.out HP3.out HP2'.out HG4.out)
        clear d3 hp3 hb4 HMO HG3 HB3 HP2
        go_wp2_with fail
        refine HEC.out.mono ?_
        rintro e w5 ⟨ps, po2, ls, lo, rfl, hps, hpo2, hb5, t1, e1, k1, t2, e2, k2, l1, l2⟩
        have HB5 := Lib.hid (HB4.out.trans (hb5.mono HB4.out.size))
        have HPO2 := Lib.hid hpo2
        have HLO := Lib.hid e2
        have HK2 := Lib.hid k2
        have HG5 := Lib.hid (HG0.out.below HB5.out)
        have HD5 := Lib.hid (HD.out.below HB5.out hDl)
        have HFL := Lib.hid (findLocs F hF J D ps f ls HND.out HJS.out (by omega) t1 hps.ne e1 k1 w5 HD5.out hps HG5.out)
        have HLL : Hid (lo.length ≤ J.length + 1) := Lib.hid (lo_len hF t2 hpo2.ne k2)
        clear hps hpo2 hb5 t1 e1 k1 t2 e2 k2 l1 l2 HEC HG4 HD4 HB4 HP3 HP2' HEUX HTL
        go_wp2_with fail
        refine HFL.out.mono ?_
        rintro e w6 ⟨K, A6, c6, rfl, hperm, hsl6, hb6⟩
        have hKl : K.length = J.length := hperm.length_eq
        have HPM := Lib.hid hperm
        have HSL6 := Lib.hid hsl6
        have HB6 := Lib.hid (HB5.out.trans (hb6.mono HB5.out.size))
        have HG6 := Lib.hid (HG0.out.below HB6.out)
        have HD6 := Lib.hid (HD.out.below HB6.out hDl)
        have HPO6 := Lib.hid (HPO2.out.below hb6)
        have HA6 : Hid (Rd w6 A6 K.length (fun m => .int .i64 (ex F (nth K m) : Nat))) := Lib.hid (fun h0 => by
          obtain ⟨b, off, e, hb, hcc⟩ := hsl6.rd (by rw [exs_length]; exact h0)
          exact ⟨b, off, e, hb, fun j hj => by rw [hcc j (by rw [exs_length]; exact hj)]; dsimp only; rw [exs_nth F _ _ hj]⟩)
        have HFM0 := findMags F hF Y HY.out HY0.out K D po2 f c6 A6 lo (hperm.nodup_iff.2 HND.out) (fun j hj => HJS.out j (hperm.mem_iff.1 hj)) (by omega) HLO.out (by have := HLL.out; omega) (evl_ev hF hperm HND.out HJS.out HK2.out) w6 HD6.out HPO6.out HG6.out HA6.out
        obtain ⟨ν, hνd⟩ : ∃ ν, ν = K.length := ⟨_, rfl⟩
        rw [← hνd] at HFM0 ⊢
        have HFM := Lib.hid HFM0
        have HNU := Lib.hid hνd
        have hνl : ν ≤ 1000 := by omega
        have hsz5 : w.heap.size ≤ w5.heap.size := HB5.out.size
        have hsz6 : w.heap.size ≤ w6.heap.size := HB6.out.size
        have hal5 : ab < w5.heap.size := by omega
        have hal6 : ab < w6.heap.size := by omega
        clear hperm hsl6 hb6 HFM0 hνd hKl HB5 HG5 HD5 HPO2 HFL HA6 HPO6 HD6 HG6
        go_wp2_with fail
        refine HFM.out.mono ?_
        rintro e w7 ⟨A7, c7, rfl, hrd7, hblk7, hb7⟩
        rw [← HNU.out] at hrd7 ⊢
        have HRD7 := Lib.hid hrd7
        have HBK7 : Hid (∀ a, A7 = some a → ab ≠ a.block) := Lib.hid (fun a e => by have := hblk7 a e; omega)
        have HSL7 : Hid (SlQ w7 (fun k => w5.heap.size ≤ k) A6 (exs F K) c6) := Lib.hid (HSL6.out.below hb7)
        have HB7 := Lib.hid (HB6.out.trans (hb7.mono HB6.out.size))
        have HAR : Hid (Arr w7 3 ab (ints R ++ spare)) := Lib.hid (HA.out.below HB7.out hal)
        have HG7 := Lib.hid (HG.out.below HB7.out)
        have HD7 := Lib.hid (HD.out.below HB7.out hDl)
        clear hrd7 hblk7 hb7 HFM HB6 HSL6
        go_wp2_with fail
        go_loopw [19] (fun i wr => ∃ q : Nat, q ≤ ν ∧ i = .int .i64 q ∧ Hid (∃ C, Rcv F Y L C (K.drop q) ∧ El F C ∧ Arr wr 3 ab (ints C ++ spare)) ∧ Hid (Mod (· = ab) w7 wr)) (fun i _ => ν - (intOf i).toNat)
        case atStart => exact ⟨0, by omega, rfl, Lib.hid ⟨R, by rw [List.drop_zero]; exact HR.out.perm HPM.out.symm, HRE.out, HAR.out⟩, Lib.hid (Mod.refl _)⟩
        case round =>
          obtain ⟨q, hq, rfl, HC, HM⟩ := hrel
          clear hx HBB HEU HFIN HNE
          have HG1 := Lib.hid (HG7.out.mod HM.out (fun k hk h => hk h))
          have c0 : wr.cell? ⟨D, 0, none⟩ = some (.pointer (some ⟨f, 0, none⟩)) := by
            have := (HD7.out.mod HM.out hDa).cell? 0
            simpa using this
          by_cases hlt : q < ν
          · have hlt1 : (q : Int) < (ν : Int) := by omega
            have hq0 : (0 : Int) ≤ (q : Int) := by omega
            obtain ⟨C, hrc, hec, hac⟩ := HC.out
            have hKq : q < K.length := by rw [← HNU.out]; exact hlt
            obtain ⟨ab6, ao6, hA6, hQ6, hb6, hc6⟩ := HSL7.out.2 (by rw [exs_length]; omega)
            obtain ⟨ab7, ao7, hA7, hb7, hc7⟩ := HRD7.out (by omega)
            subst hA6 hA7
            have hn6 : ab6 ≠ ab := by omega
            have hn7 : ab ≠ ab7 := HBK7.out _ rfl
            obtain ⟨j, hj⟩ : ∃ j, j = nth K q := ⟨_, rfl⟩
            have hjK : j ∈ J := HPM.out.mem_iff.1 (by rw [hj]; exact nth_mem hKq)
            have hjs := HJS.out j hjK
            have hjL := HJ.out j hjK
            have hyl := HY.out j
            have hba : wr.cell? ⟨ab6, ao6 + q, none⟩ = some (.int .i64 (ex F j : Nat)) := by
              have := hc6 q (by rw [exs_length]; exact hKq)
              rw [exs_nth F _ _ hKq, ← hj] at this
              rw [← this]
              exact World.cell?_of_block (w := w7) (HM.out.block ab6 hb6 hn6)
            have hbm : wr.cell? ⟨ab7, ao7 + q, none⟩ = some (.int .i64 (Y j : Nat)) := by
              have := hc7 q hlt
              dsimp only at this
              rw [← hj] at this
              rw [← this]
              exact World.cell?_of_block (w := w7) (HM.out.block ab7 hb7 (fun e => hn7 e.symm))
            have hdrop := nth_drop_cons hKq
            rw [← hj] at hdrop
            rw [hdrop] at hrc
            have hnj : j ∉ K.drop (q + 1) := by
              have h1 := (HPM.out.nodup_iff.2 HND.out)
              have h2 : (K.drop q).Nodup := List.Sublist.nodup (List.drop_sublist _ _) h1
              rw [hdrop] at h2
              exact (List.nodup_cons.1 h2).1
            have hrc2 := hrc.next hnj hjL
            have hcl : C.length = n := by rw [hrc.len, HN.out]
            obtain ⟨p, hp⟩ : ∃ p, p = n - 1 - j := ⟨_, rfl⟩
            rw [← HN.out] at hrc2 hjL
            rw [← hp] at hrc2
            have hxl := hec p
            obtain ⟨x, hx⟩ : ∃ x, x = nth C p := ⟨_, rfl⟩
            rw [← hx] at hrc2 hxl
            obtain ⟨y, hy⟩ : ∃ y, y = Y j := ⟨_, rfl⟩
            rw [← hy] at hrc2 hbm hyl
            have hvl := xor_lt_size hF hxl hyl
            obtain ⟨v, hv⟩ : ∃ v, v = x ^^^ y := ⟨_, rfl⟩
            rw [← hv] at hrc2 hvl
            have HXA := Lib.hid (fun W => gfAdd x y v hv.symm (by omega) (by omega) W)
            have hpn : p < n := by omega
            have hpc : p < c := by omega
            have hp0 : (0 : Int) ≤ (p : Int) := by omega
            have hp1 : (p : Int) < (n : Int) := by omega
            have hw1 : IntKind.i64.wrap ((n : Int) - 1) = (n : Int) - 1 := by rw [IntKind.wrap_i64]; omega
            have hw2 : IntKind.i64.wrap ((n : Int) - 1 - (j : Int)) = (p : Int) := by rw [IntKind.wrap_i64]; omega
            have hlt0 : ((p : Int) < 0) = False := by simp
            have hcp : wr.cell? ⟨ab, p, none⟩ = some (.int .i64 (x : Nat)) := by rw [hac.cell? p, intsS_get spare (by omega), hx]
            have hfp := hac.free p
            have HLOG := Lib.hid (fun W hW => gfLogN (fun k => k ≠ ab) F hF f j hjs W hW)
            obtain ⟨ei, hei⟩ : ∃ ei, ei = ex F j := ⟨_, rfl⟩
            rw [← hei] at hba HLOG
            have HRC := Lib.hid hrc2
            have HEC2 := Lib.hid (el_set hF hec (p := p) hvl)
            have hset := intsS_set spare (C := C) (p := p) (by omega) v
            have HAC2 : Hid (∀ W, Arr W 3 ab (ints C ++ spare) → Arr (W.setCell ⟨ab, p, none⟩ (.int .i64 (v : Nat))) 3 ab (ints (C.set p v) ++ spare)) := Lib.hid (fun W h => by rw [← hset]; exact h.set_ p _)
            have HAC := Lib.hid hac
            have HK6 := Lib.hid hc6
            have HK7 := Lib.hid hc7
            clear hrc hec hac HC hrc2 hset hei hv hx hy hp hj hdrop hnj hc6 hc7 hQ6 hjK hcl hKq
            go_wp2_with fail
            go_quiet ((go_at_call 95; exact quietN (HLOG.out _ (HG1.out.drewN _))))
            have e1 : (wr.drewN nq).cell? ⟨ab, p, none⟩ = some (.int .i64 (x : Nat)) := hcp
            have e2 : (wr.drewN nq).cell? ⟨ab7, ao7 + q, none⟩ = some (.int .i64 (y : Nat)) := hbm
            have e3 : (wr.drewN nq).frozen? ⟨ab, p, none⟩ = false := hfp
            have HAC3 : Hid (Arr (wr.drewN nq) 3 ab (ints C ++ spare)) := Lib.hid HAC.out
            have HM3 := Lib.hid (HM.out.drewN nq)
            obtain ⟨W8, hW8⟩ : ∃ W8, W8 = wr.drewN nq := ⟨_, rfl⟩
            rw [← hW8] at e1 e2 e3 HAC3 HM3 ⊢
            clear hW8 hcp hbm hfp hba HAC HM c0 HG1
            go_wp2_with fail
            go_region_law (first | (go_simp; go_at_call 97; refine (HXA.out _).mono ?_; rintro e w3 ⟨rfl, rfl⟩))
            all_goals
              have HA9 := Lib.hid (HAC2.out W8 HAC3.out)
              have HM9 := Lib.hid (HM3.out.setCell (p := ⟨ab, p, none⟩) (.inl rfl) (.int .i64 (v : Nat)))
              go_wp2_with fail
              go_roundw
              case rel => exact ⟨q + 1, by omega, by go_num, Lib.hid ⟨_, HRC.out, HEC2.out, HA9.out⟩, Lib.hid (HM9.out.drewN _)⟩
              case measure => simp [intOf]; omega
          · obtain rfl : q = ν := by omega
            have hx : ((q : Int) < (q : Int)) = False := by simp
            obtain ⟨C, hrc, hec, hac⟩ := HC.out
            rw [List.drop_eq_nil_of_le (by rw [← HNU.out]; exact Nat.le_refl _)] at hrc
            have hCL := hrc.done
            have HFA : Hid (Arr wr 3 ab (ints L ++ spare)) := Lib.hid (by rw [← hCL]; exact hac)
            have HMM : Hid (Mod (· = ab) w wr) := Lib.hid ((Mod.of_below HB7.out).trans HM.out)
            clear hrc hec hac HC hCL
            go_wp2_with fail
            go_ret
            exact ⟨rfl, HFA.out, HMM.out⟩
end Go.Proofs.YtiielblnmfeapaaGreatDoor
