/-
  Divide, walked. No condition beyond the bounds that each theorem states.
-/
import Derived.Test.YthagfgfefkpikaaRSD3
import Derived.Deep.LoopGhost
namespace Go.Proofs.Ythagfgfefkpikaa
open Go.RowKit Go.Qz Go.Qz.RS
set_option linter.unusedVariables false

theorem quietL {P : Program} {f : FuncId} {args : Array Value} {w : World} {n : Nat} {v : Value}
    (h : Calls P f args (w.drewN n) fun e w' => e = .returned v ∧ w.drewN n = w') : Calls P f args (w.drewN n) fun e w'' => e = .returned v ∧ ∃ m, w'' = w.drewN m :=
  h.mono fun _ _ ⟨he, hm⟩ => ⟨he, n, hm.symm⟩
theorem quietN {P : Program} {f : FuncId} {args : Array Value} {w : World} {n : Nat} {v : Value}
    (h : Calls P f args (w.drewN n) fun e w' => e = .returned v ∧ ∃ m, w' = (w.drewN n).drewN m) : Calls P f args (w.drewN n) fun e w'' => e = .returned v ∧ ∃ m, w'' = w.drewN m :=
  h.mono fun _ _ ⟨he, m, hm⟩ => ⟨he, n + m, by rw [hm, World.drewN_drewN]⟩
theorem PolyQ.drewN {w : World} {Q : Nat → Prop} {p f : Nat} {cs : List Nat} (h : PolyQ w Q p f cs) (n : Nat) : PolyQ (w.drewN n) Q p f cs := h.below (below_drewN (Below.refl _ _) _)
theorem GFQ.drewN {w : World} {Q : Nat → Prop} {f : Nat} {F : Fld} (h : GFQ w Q f F) (n : Nat) : GFQ (w.drewN n) Q f F := h.below (below_drewN (Below.refl _ _) _)

set_option maxRecDepth 100000 in
set_option maxHeartbeats 1600000 in
theorem polyDivZero (p q f : Nat) (a : List Nat) (w : World) (hp : PolyQ w (fun _ => True) p f a) (hq : PolyQ w (fun _ => True) q f [0]) :
    Calls Try.prog 40 #[.pointer (some ⟨p, 0, none⟩), .pointer (some ⟨q, 0, none⟩)] w fun e w' => ∃ x, e = .returned (.tuple #[.pointer none, .pointer none, x]) ∧ IsErr x ∧ Below w.heap.size w w' := by
  have HQQ := Lib.hid hq
  obtain ⟨⟨cb, off, cap, h1, h2, h3, h4, h5⟩, hp1, hpne⟩ := hp
  obtain ⟨⟨cb', off', cap', h1', h2', h3', h4', h5'⟩, hq1, hqne⟩ := hq
  have c0 : w.cell? ⟨p, 0, none⟩ = some (.pointer (some ⟨f, 0, none⟩)) := by rw [cell_of_row w p 0 _ _ _ h1]; rfl
  have d0 : w.cell? ⟨q, 0, none⟩ = some (.pointer (some ⟨f, 0, none⟩)) := by rw [cell_of_row w q 0 _ _ _ h1']; rfl
  have hneq := fun W => ptr_neq f W
  have HZ := Lib.hid (fun W hW => polyIsZero (fun _ => True) q f [0] true rfl W hW (by simp))
  clear h1 h1' h5 h5'
  go_enter Try.func40, Try.ntmps40
  go_wp2_with fail
  go_quiet (fail)
  go_wp2_with fail
  refine (HZ.out _ (HQQ.out.drewN _)).mono ?_
  rintro e w1 ⟨rfl, rfl⟩
  go_wp2_with fail
  refine (err_new _ _).mono ?_
  rintro e w' ⟨v, rfl, hv, hb⟩
  go_wp2_with fail
  go_ret3
  exact ⟨v, rfl, hv, (below_drewN (Below.refl _ _) _).trans hb⟩

set_option maxRecDepth 100000 in
set_option maxHeartbeats 6400000 in
theorem polyDivQ (Q : Nat → Prop) (F : Fld) (hF : Six F) (p q f : Nat) (a b : List Nat) (hal : a.length < 10000) (hbl : b.length < 10000) (hae : El F a) (hbe : El F b) (hta : tidy a = a) (htb : tidy b = b) (hb0 : b ≠ [0]) (w : World) (hQ : ∀ k, w.heap.size ≤ k → Q k)
    (hp : PolyQ w Q p f a) (hq : PolyQ w Q q f b) (hg : GFQ w Q f F) :
    Calls Try.prog 40 #[.pointer (some ⟨p, 0, none⟩), .pointer (some ⟨q, 0, none⟩)] w fun e w' => ∃ pq pr lq lr, e = .returned (.tuple #[.pointer (some ⟨pq, 0, none⟩), .pointer (some ⟨pr, 0, none⟩), .nilIface]) ∧
      Below w.heap.size w w' ∧ PolyQ w' Q pq f lq ∧ PolyQ w' Q pr f lr ∧ Dv F a b lq lr ∧ (lr.length < b.length ∨ lr = [0]) := by
  have hs := hF.bounds
  have HPP := Lib.hid hp
  have HQQ := Lib.hid hq
  have HGG := Lib.hid hg
  have HQH := Lib.hid hQ
  clear hQ
  obtain ⟨⟨cb, off, cap, h1, h2, h3, h4, h5⟩, hp1, hpne⟩ := hp
  obtain ⟨⟨cb', off', cap', h1', h2', h3', h4', h5'⟩, hq1, hqne⟩ := hq
  have c0 : w.cell? ⟨p, 0, none⟩ = some (.pointer (some ⟨f, 0, none⟩)) := by rw [cell_of_row w p 0 _ _ _ h1]; rfl
  have d0 : w.cell? ⟨q, 0, none⟩ = some (.pointer (some ⟨f, 0, none⟩)) := by rw [cell_of_row w q 0 _ _ _ h1']; rfl
  have hlp := HPP.out.lt
  have HC0 := Lib.hid c0
  have hap := List.length_pos_iff.2 hpne
  have hbp := List.length_pos_iff.2 hqne
  have hneq := fun W => ptr_neq f W
  have hneq2 : ∀ W, (binOp .neq 58 .nilIface .nilIface).run Try.prog W = .ok (.bool false) W := fun W => rfl
  have hbz := tidy_top htb hqne hb0
  have hzf : (((nth b 0 : Nat) : Int) == 0) = false := by simpa using hbz
  have HZ := Lib.hid (fun W hW => polyIsZero Q q f b false hzf W hW (by omega))
  have HD := Lib.hid (fun W hW => polyDegree Q q f b W hW (by omega))
  have HCo := Lib.hid (fun W hW => polyCoef Q q f b (b.length - 1) ((b.length - 1 : Nat) : Int) rfl (nth b 0) (by congr 1; omega) (by omega) W hW (by omega))
  have HI := Lib.hid (fun W hW => gfInv Q F hF f (nth b 0) (hbe 0) hbz W hW)
  have HG0 := Lib.hid (fun W hW => gfZero Q F f W hW)
  have HV0 := Lib.hid (Dv.start hF (d := b) hta hpne hae hbe)
  have HDST := Lib.hid (fun lq lr => Dv.step hF (p := a) (q := lq) (r := lr) htb hqne hbe hb0)
  have HAE := Lib.hid hae
  have HBE := Lib.hid hbe
  have hdb : ∃ db, db = b.length - 1 := ⟨_, rfl⟩
  obtain ⟨db, hdb⟩ := hdb
  have hdb2 : db + 1 = b.length := by omega
  rw [← hdb] at HD HCo
  clear h1 h1' h5 h5' hg hta htb hae hbe hb0 hzf hbz hdb
  obtain ⟨x0, hx0⟩ : ∃ x0, x0 = nth b 0 := ⟨_, rfl⟩
  rw [← hx0] at HCo HI
  obtain ⟨iv, hiv⟩ : ∃ iv, iv = inv F x0 := ⟨_, rfl⟩
  rw [← hiv] at HI
  have HIV : Hid (iv = inv F (nth b 0)) := Lib.hid (by rw [hiv, hx0])
  clear hiv hx0
  go_enter Try.func40, Try.ntmps40
  go_wp2_with fail
  go_quiet (fail)
  go_wp2_with fail
  refine (HZ.out _ (HQQ.out.drewN _)).mono ?_
  rintro e w1 ⟨rfl, rfl⟩
  go_wp2_with fail
  refine (HG0.out _ (HGG.out.drewN _)).mono ?_
  rintro e w1 ⟨⟨z0, rfl, hz0⟩, rfl⟩
  have HZ0 := Lib.hid hz0
  clear hz0
  go_wp2_with fail
  refine (HD.out _ (HQQ.out.drewN _)).mono ?_
  rintro e w1 ⟨rfl, rfl⟩
  go_wp2_with fail
  refine (HCo.out _ (HQQ.out.drewN _)).mono ?_
  rintro e w1 ⟨rfl, n1, rfl⟩
  have hbw1 : Below w.heap.size w ((w.drewN nq).drewN n1) := below_drewN (below_drewN (Below.refl _ _) _) _
  have HZ1 := Lib.hid (HZ0.out.drewN n1)
  obtain ⟨W1, hW1⟩ : ∃ W1, W1 = (w.drewN nq).drewN n1 := ⟨_, rfl⟩
  rw [← hW1] at hbw1 HZ1 ⊢
  clear hW1 HZ0
  have c1 : W1.cell? ⟨p, 0, none⟩ = some (.pointer (some ⟨f, 0, none⟩)) := (hbw1.cell (p := ⟨p, 0, none⟩) hlp).trans c0
  go_wp2_with fail
  refine (HI.out _ (HGG.out.below hbw1)).mono ?_
  rintro e w1 ⟨rfl, n2, rfl⟩
  have hbw2 : Below w.heap.size w (W1.drewN n2) := below_drewN hbw1 _
  have HZ2 := Lib.hid (HZ1.out.drewN n2)
  obtain ⟨W2, hW2⟩ : ∃ W2, W2 = W1.drewN n2 := ⟨_, rfl⟩
  rw [← hW2] at hbw2 HZ2 ⊢
  clear hW2 HZ1 hbw1 c0 c1 d0 HZ
  go_wp2_with fail
  go_loopg [4, 5] (a.length + 1) (fun gk u v wr => ∃ pq pr lq lr, u = .pointer (some ⟨pq, 0, none⟩) ∧ v = .pointer (some ⟨pr, 0, none⟩) ∧ Hid (PolyQ wr Q pq f lq) ∧ Hid (PolyQ wr Q pr f lr) ∧ Hid (Dv F a b lq lr) ∧ Hid (Below w.heap.size w wr) ∧ Hid (lr = [0] ∨ lr.length + 1 ≤ gk))
  case atStart => exact ⟨z0, p, [0], a, rfl, rfl, HZ2, Lib.hid (HPP.out.below hbw2), HV0, Lib.hid hbw2, Lib.hid (.inr (Nat.le_refl _))⟩
  case round =>
    obtain ⟨pq, pr, lq, lr, rfl, rfl, HPQ, HPR, HV, HB, HK⟩ := hrel
    clear HZ2 hbw2
    have hrl := HV.out.rl
    have hrn := List.length_pos_iff.2 HV.out.rn
    have HPRW := Lib.hid (fun W (hW : Below wr.heap.size wr W) => HPR.out.below hW)
    have hbq : PolyQ wr Q q f b := HQQ.out.below HB.out
    have HBQ := Lib.hid hbq
    clear hbq
    obtain ⟨dr, hdr⟩ : ∃ dr, dr = lr.length - 1 := ⟨_, rfl⟩
    have hdr2 : dr + 1 = lr.length := by omega
    have HDR := Lib.hid (fun W hW => polyDegree Q pr f lr W hW (by omega))
    rw [← hdr] at HDR
    clear hdr
    by_cases hge : db ≤ dr
    · by_cases hz : lr = [0]
      · have HZR := Lib.hid (polyIsZero Q pr f lr true (by rw [hz]; rfl) wr HPR.out (by omega))
        have HZ := Lib.hid hz
        clear hz
        have hge1 : ((db : Nat) : Int) ≤ ((dr : Nat) : Int) := by omega
        go_wp2_with fail
        refine (HDR.out _ HPR.out).mono ?_
        rintro e w1 ⟨rfl, rfl⟩
        go_wp2_with fail
        refine (HD.out _ HBQ.out).mono ?_
        rintro e w1 ⟨rfl, rfl⟩
        go_wp2_with fail
        refine HZR.out.mono ?_
        rintro e w1 ⟨rfl, rfl⟩
        go_wp2_with fail
        go_ret3
        exact ⟨pq, pr, lq, lr, rfl, HB.out, HPQ.out, HPR.out, HV.out, .inr HZ.out⟩
      · have hzt := tidy_top HV.out.rt HV.out.rn hz
        have HZR := Lib.hid (polyIsZero Q pr f lr false (by simpa using hzt) wr HPR.out (by omega))
        have HST := Lib.hid (HDST.out lq lr HV.out (by omega) hz)
        have HKK := Lib.hid (show lr.length + 1 ≤ gk by rcases HK.out with h | h; exact absurd h hz; exact h)
        have hgk : 2 ≤ gk := by have := HKK.out; omega
        clear hz HK hzt
        have hge1 : ((db : Nat) : Int) ≤ ((dr : Nat) : Int) := by omega
        obtain ⟨kd, hkd⟩ : ∃ kd, kd = lr.length - b.length := ⟨_, rfl⟩
        have ekd : ((dr : Nat) : Int) - ((db : Nat) : Int) = (kd : Int) := by omega
        have hkd1 : kd < 10000 := by omega
        rw [← hkd] at HST
        have HKD := Lib.hid hkd
        clear hkd
        obtain ⟨sc, hsc⟩ : ∃ sc, sc = scale F b lr := ⟨_, rfl⟩
        rw [← hsc] at HST
        have hscl : sc < F.size := by rw [hsc]; exact mul_lt hF (HV.out.re 0)
        obtain ⟨y0, hy0⟩ : ∃ y0, y0 = nth lr 0 := ⟨_, rfl⟩
        have HSC : Hid (mul F y0 iv = sc) := Lib.hid (by rw [hsc, hy0, HIV.out]; rfl)
        have hy0l : y0 < F.size := by rw [hy0]; exact HV.out.re 0
        have hivl : iv < F.size := by rw [HIV.out]; exact inv_lt hF _
        have HCR := Lib.hid (fun W hW => polyCoef Q pr f lr dr (dr : Int) rfl y0 (by rw [hy0]; congr 1; omega) (by omega) W hW (by omega))
        clear hsc hy0
        have HMU := Lib.hid (fun W hW => gfMul Q F hF f y0 iv hy0l hivl W hW)
        rw [HSC.out] at HMU
        have c0 : wr.cell? ⟨p, 0, none⟩ = some (.pointer (some ⟨f, 0, none⟩)) := (HB.out.cell (p := ⟨p, 0, none⟩) hlp).trans HC0.out
        go_wp2_with fail
        refine (HDR.out _ HPR.out).mono ?_
        rintro e w1 ⟨rfl, rfl⟩
        go_wp2_with fail
        refine (HD.out _ HBQ.out).mono ?_
        rintro e w1 ⟨rfl, rfl⟩
        go_wp2_with fail
        refine HZR.out.mono ?_
        rintro e w1 ⟨rfl, rfl⟩
        go_wp2_with fail
        refine (HDR.out _ HPR.out).mono ?_
        rintro e w1 ⟨rfl, rfl⟩
        go_wp2_with fail
        refine (HD.out _ HBQ.out).mono ?_
        rintro e w1 ⟨rfl, rfl⟩
        go_wp2_with fail
        go_quiet ((first | (go_at_call 37; exact quietL (HDR.out _ (HPR.out.drewN _))) | (go_at_call 53; exact quietN (HCR.out _ (HPR.out.drewN _))) | (go_at_call 55; exact quietN (HMU.out _ ((HGG.out.below HB.out).drewN _)))))
        have hbwa : Below w.heap.size w (wr.drewN nq) := below_drewN HB.out _
        have HBQa := Lib.hid (HBQ.out.drewN nq)
        have HPQa := Lib.hid (HPQ.out.drewN nq)
        have HPRa := Lib.hid (HPR.out.drewN nq)
        obtain ⟨W1, hW1⟩ : ∃ W1, W1 = wr.drewN nq := ⟨_, rfl⟩
        rw [← hW1] at hbwa HBQa HPQa HPRa ⊢
        clear hW1 HBQ HPQ HPR HPRW HZR HDR HCR HMU HSC HB hy0l hivl
        have c1 : W1.cell? ⟨p, 0, none⟩ = some (.pointer (some ⟨f, 0, none⟩)) := (hbwa.cell (p := ⟨p, 0, none⟩) hlp).trans HC0.out
        have HBWA := Lib.hid hbwa
        have HM1 := Lib.hid (polyMonoQ Q F hF q f kd sc b (kd : Int) rfl (by omega) hscl HBE.out (by omega) W1 (fun k hk => HQH.out k (Nat.le_trans HBWA.out.size hk)) HBQa.out (HGG.out.below hbwa))
        clear hbwa c0
        go_wp2_with fail
        refine HM1.out.mono ?_
        rintro e W2 ⟨pt, rfl, hpt, hb2⟩
        have hbwb := HBWA.out.trans (hb2.mono HBWA.out.size)
        have HPT2 := Lib.hid hpt
        have HPQ2 := Lib.hid (HPQa.out.below hb2)
        have HPR2 := Lib.hid (HPRa.out.below hb2)
        have c2 : W2.cell? ⟨p, 0, none⟩ = some (.pointer (some ⟨f, 0, none⟩)) := (hbwb.cell (p := ⟨p, 0, none⟩) hlp).trans HC0.out
        have HM2 := Lib.hid (gfMono Q F hF f kd sc (kd : Int) rfl (by omega) hscl W2 (fun k hk => HQH.out k (Nat.le_trans hbwb.size hk)) (HGG.out.below hbwb))
        have HBWB := Lib.hid hbwb
        clear hpt hb2 hbwb HPQa HPRa HBQa HM1 HBWA c1
        go_wp2_with fail
        refine HM2.out.mono ?_
        rintro e W3 ⟨pm, rfl, hpm, hb3⟩
        have hbwc := HBWB.out.trans (hb3.mono HBWB.out.size)
        have hlq := HV.out.ql
        have hml := monL_length kd sc
        have HAD := Lib.hid (polyAdd Q pq pm f lq (monL kd sc) (by omega) (by omega) (fun j => by have := HV.out.qe j; omega) (fun j => by have := monL_el hF kd hscl j; omega) HV.out.qt (monL_tidy _ _) W3 (fun k hk => HQH.out k (Nat.le_trans hbwc.size hk)) (HPQ2.out.below hb3) hpm)
        have HPT3 := Lib.hid (HPT2.out.below hb3)
        have HPR3 := Lib.hid (HPR2.out.below hb3)
        have HBWC := Lib.hid hbwc
        clear hpm hb3 hbwc HPT2 HPQ2 HPR2 HM2 HBWB c2 hlq hml
        go_wp2_with fail
        refine HAD.out.mono ?_
        rintro e W4 ⟨pq', rfl, hpq, hb4⟩
        have hbwd := HBWC.out.trans (hb4.mono HBWC.out.size)
        have hsl := shfL_length F hqne kd sc
        have HAR := Lib.hid (polyAdd Q pr pt f lr (shfL F b kd sc) (by omega) (by omega) (fun j => by have := HV.out.re j; omega) (fun j => by have := shfL_el hF HBE.out kd sc j; omega) HV.out.rt (shfL_tidy _ _ _ _) W4 (fun k hk => HQH.out k (Nat.le_trans hbwd.size hk)) (HPR3.out.below hb4) (HPT3.out.below hb4))
        have HPQ4 := Lib.hid hpq
        have HBWD := Lib.hid hbwd
        clear hpq hb4 hbwd HPT3 HPR3 HBWC HAD hsl
        go_wp2_with fail
        refine HAR.out.mono ?_
        rintro e W5 ⟨pr', rfl, hpr, hb5⟩
        have HBW5 := Lib.hid (HBWD.out.trans (hb5.mono HBWD.out.size))
        have HPR5 := Lib.hid hpr
        have HPQ5 := Lib.hid (HPQ4.out.below hb5)
        obtain ⟨lq', hlq'⟩ : ∃ lq', lq' = plus lq (monL kd sc) := ⟨_, rfl⟩
        obtain ⟨lr', hlr'⟩ : ∃ lr', lr' = plus lr (shfL F b kd sc) := ⟨_, rfl⟩
        rw [← hlq', ← hlr'] at HST
        rw [← hlq'] at HPQ5
        rw [← hlr'] at HPR5
        clear hpr hb5 HPQ4 HBWD HAR hlq' hlr'
        go_wp2_with fail
        go_roundg (gk - 1)
        case measure => omega
        case rel => exact ⟨pq', pr', lq', lr', rfl, rfl, HPQ5, HPR5, Lib.hid HST.out.1, HBW5, Lib.hid (by have := HKK.out; rcases HST.out.2 with h | h; exact .inr (by omega); exact .inl h)⟩
    · have hge1 : ¬ ((db : Nat) : Int) ≤ ((dr : Nat) : Int) := by omega
      have hge2 : decide (((db : Nat) : Int) ≤ ((dr : Nat) : Int)) = false := by simp; omega
      go_wp2_with fail
      refine (HDR.out _ HPR.out).mono ?_
      rintro e w1 ⟨rfl, rfl⟩
      go_wp2_with fail
      refine (HD.out _ HBQ.out).mono ?_
      rintro e w1 ⟨rfl, rfl⟩
      go_wp2_with fail
      go_ret3
      exact ⟨pq, pr, lq, lr, rfl, HB.out, HPQ.out, HPR.out, HV.out, .inl (by omega)⟩
theorem polyDiv (F : Fld) (hF : Six F) (p q f : Nat) (a b : List Nat) (hal : a.length < 10000) (hbl : b.length < 10000) (hae : El F a) (hbe : El F b) (hta : tidy a = a) (htb : tidy b = b) (hb0 : b ≠ [0]) (w : World)
    (hp : PolyQ w (fun _ => True) p f a) (hq : PolyQ w (fun _ => True) q f b) (hg : GFQ w (fun _ => True) f F) :
    Calls Try.prog 40 #[.pointer (some ⟨p, 0, none⟩), .pointer (some ⟨q, 0, none⟩)] w fun e w' => ∃ pq pr lq lr, e = .returned (.tuple #[.pointer (some ⟨pq, 0, none⟩), .pointer (some ⟨pr, 0, none⟩), .nilIface]) ∧
      Below w.heap.size w w' ∧ PolyQ w' (fun _ => True) pq f lq ∧ PolyQ w' (fun _ => True) pr f lr ∧ Dv F a b lq lr ∧ (lr.length < b.length ∨ lr = [0]) :=
  polyDivQ _ F hF p q f a b hal hbl hae hbe hta htb hb0 w (fun _ _ => trivial) hp hq hg
end Go.Proofs.Ythagfgfefkpikaa
