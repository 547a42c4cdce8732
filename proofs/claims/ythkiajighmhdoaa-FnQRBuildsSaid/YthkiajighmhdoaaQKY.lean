/-
  The data laid into the matrix, walked. No condition beyond the bounds that each theorem states.
-/
import Derived.Test.YthkiajighmhdoaaQKX
import Derived.Test.YthkiajighmhdoaaQKO
namespace Go.Proofs.Ythkiajighmhdoaa
open Go.RowKit Go.Qz Go.Qz.QK Go.Qz.QW Go.Qz.QB
set_option linter.unusedVariables false

variable {w w' : World} {M B n : Nat} {g g' : G}
theorem wexcIface : Try.prog.underlying 122 = some (.interface (Try.prog.methodsAt 122)) := by kernel_rfl
def IsW (v : Value) : Prop := ∃ x, v = .iface 190 x
set_option maxRecDepth 100000 in
theorem writer_new (A : Option Addr) (k c : Nat) (w : World) :
    Calls Try.prog 103 #[.slice A k c] w fun e w' => ∃ v, e = .returned v ∧ IsW v ∧ Below w.heap.size w w' := by
  go_enter Try.func103, Try.ntmps103
  go_wp2_with fail
  refine (exc_new _ _ _ _ _).mono ?_
  rintro e w' ⟨rfl, hb⟩
  go_wp2_with fail
  go_ret
  exact ⟨_, rfl, ⟨_, rfl⟩, hb⟩
/-- A row of bits as a BitArray. -/
def BitsA (w : World) (p k sz : Nat) (z : Nat → Bool) : Prop := ∃ ws, BA w p k ws sz ∧ ws.length = (sz + 31) / 32 ∧ ∀ i, bit ws i = (decide (i < sz) && z i)
theorem BitsA.mod {S : Nat → Prop} {p k sz : Nat} {z : Nat → Bool} (h : BitsA w p k sz z) (hm : Mod S w w') (hp : ¬ S p) (hk : ¬ S k) : BitsA w' p k sz z := by
  obtain ⟨ws, hb, hl, hz⟩ := h
  exact ⟨ws, hb.keep (hm.block p hb.plt hp) (hm.block k hb.glt hk), hl, hz⟩
theorem BitsA.size (p k sz : Nat) (z : Nat → Bool) (w : World) (h : BitsA w p k sz z) :
    Calls Try.prog 92 #[.pointer (some ⟨p, 0, none⟩)] w fun e w' => e = .returned (.int .i64 sz) ∧ w = w' := by
  obtain ⟨ws, hb, _⟩ := h
  exact ba_size p k sz ws w hb
theorem BitsA.get (p k sz : Nat) (z : Nat → Bool) (i : Nat) (hi : i < sz) (hi2 : i < 1000000) (w : World) (h : BitsA w p k sz z) :
    Calls Try.prog 93 #[.pointer (some ⟨p, 0, none⟩), .int .i64 i] w fun e w' => e = .returned (.bool (z i)) ∧ w = w' := by
  obtain ⟨ws, hb, hl, hz⟩ := h
  have e : z i = bit ws i := by rw [hz i]; simp [hi]
  rw [e]
  exact ba_get i i rfl p k sz ws w hb (by omega) (by omega)
/-- Where the walk stands: x ahead of a pair, y ahead of a row. -/
def hX (n p : Nat) : Int := if 7 + 2 * p ≤ n then (n : Int) - 1 - 2 * p else (n : Int) - 2 - 2 * p
def hY (n p j : Nat) : Int := if p % 2 = 0 then (n : Int) - 1 - j else j
def hD (p : Nat) : Int := if p % 2 = 0 then -1 else 1
theorem hY_row (n p j : Nat) (hj : j < n) : hY n p j = (rowO n p j : Nat) := by unfold hY rowO; split <;> omega
theorem tix_q (n p j : Nat) : tix n p j 2 = tix n p (j + 1) 0 := by unfold tix; omega
theorem tix_s (n p j q : Nat) : tix n p j (q + 1) = tix n p j q + 1 := rfl
theorem tix_p (n p : Nat) : tix n p n 0 = tix n (p + 1) 0 0 := by
  have h := Nat.add_mul p 1 n
  rw [Nat.one_mul] at h
  unfold tix; omega
/-- A data module's value. -/
def vbM (m sz : Nat) (z : Nat → Bool) (r c k : Nat) : Bool := (decide (k < sz) && z k) != mkB m c r
def vM (m sz : Nat) (z : Nat → Bool) (r c k : Nat) : Int := b8 (vbM m sz z r c k)
def DatPost (M B n sz rm : Nat) (q : G) (w : World) (e : Ending) (w' : World) : Prop :=
  (sz ≤ rm ∧ e = .returned .nilIface ∧ Hid (MG w' M B n q) ∧ Hid (Mod (MatS B M) w w')) ∨ (rm < sz ∧ ∃ v, e = .returned v ∧ IsW v ∧ Hid (Mod (MatS B M) w w'))
set_option maxRecDepth 100000 in
set_option maxHeartbeats 12800000 in
theorem embData (m sz p k rm : Nat) (z : Nat → Bool) (gv : Nat → Nat → Bool) (Bs : G) (hm : m < 8) (hsz : sz ≤ 2147483647) (ho : n % 2 = 1) (hn21 : 21 ≤ n) (hn : n ≤ 200) (hpk : ¬ MatS B M p ∧ ¬ MatS B M k) (hbs : ∀ r c, r < n → c < n → (Bs r c = -1 ↔ gv r c = false))
    (hrm : nb n gv ((n - 1) * n) = rm) (hrm2 : rm < 100000) (h : MG w M B n Bs) (hb : BitsA w p k sz z) :
    Calls Try.prog 71 #[.pointer (some ⟨p, 0, none⟩), .int .i64 m, .pointer (some ⟨M, 0, none⟩)] w (DatPost M B n sz rm (fl n gv Bs (vM m sz z) ((n - 1) * n)) w) := by
  have H0 := Lib.hid h
  have HLT := Lib.hid h.lt
  have HBA := Lib.hid hb
  have HPK := Lib.hid hpk
  have HBS := Lib.hid hbs
  have HRM := Lib.hid hrm
  have HO := Lib.hid ho
  have HF0 : Hid (∀ r c, r < n → c < n → Bs r c = fl n gv Bs (vM m sz z) (tix n 0 0 0) r c) := Lib.hid (fun r c _ _ => by
    rw [show tix n 0 0 0 = 0 by simp [tix], fl_zero])
  have HB0 : Hid ((min sz (nb n gv (tix n 0 0 0)) : Nat) = 0) := Lib.hid (by simp [show tix n 0 0 0 = 0 by simp [tix], nb, wy])
  have hneE : ∀ W, (binOp .neq 60 .nilIface .nilIface).run Try.prog W = .ok (.bool false) W := fun W => rfl
  have hmm : ((m : Int) == -1) = false := beq_eq_false_iff_ne.2 (by omega)
  have WW0 := Lib.hid (mat_width M B n _ w h)
  have WH0 := Lib.hid (mat_height M B n _ w h)
  have en : (n : Int) - 1 = ((n - 1 : Nat) : Int) := by omega
  obtain ⟨n1, hn1⟩ : ∃ n1, n1 = n - 1 := ⟨_, rfl⟩
  rw [← hn1] at en
  have HN1 : Hid (n1 + 1 = n) := Lib.hid (by omega)
  have hn1b : n1 ≤ 200 := by omega
  clear h hb hpk hbs hrm ho hn1
  go_enter Try.func71, Try.ntmps71
  go_wp2_with fail
  refine WW0.out.mono ?_
  rintro e w1 ⟨rfl, rfl⟩
  go_wp2_with fail
  refine WH0.out.mono ?_
  rintro e w1 ⟨rfl, rfl⟩
  go_wp2_with fail
  go_loopw [7, 8, 9, 10] (fun bi d x y wr => ∃ (pr : Nat) (b0 : Nat) (dv xv yv : Int) (q : G), pr ≤ n1 / 2 ∧ bi = .int .i64 b0 ∧ d = .int .i64 dv ∧ x = .int .i64 xv ∧ y = .int .i64 yv ∧ Hid (b0 = min sz (nb n gv (tix n pr 0 0))) ∧ Hid (dv = hD pr) ∧ Hid (xv = hX n pr) ∧ Hid (yv = hY n pr 0) ∧ Hid (MG wr M B n q) ∧ Hid (∀ r c, r < n → c < n → q r c = fl n gv Bs (vM m sz z) (tix n pr 0 0) r c) ∧ Hid (BitsA wr p k sz z) ∧ Hid (Mod (MatS B M) w wr)) (fun _ _ x _ _ => (intOf x + 2).toNat)
  case atStart => exact ⟨0, 0, -1, n1, n1, Bs, by omega, rfl, rfl, rfl, rfl, Lib.hid HB0.out.symm, Lib.hid rfl, Lib.hid (by have := HN1.out; unfold hX; split <;> omega), Lib.hid (by have := HN1.out; unfold hY; rw [if_pos (by omega)]; omega), H0, HF0, HBA, Lib.hid (Mod.refl _)⟩
  case round =>
    obtain ⟨pr, b0, dv, xv, yv, q, hpr, rfl, rfl, rfl, rfl, HBI, HDV, HXV, HYV, HG, HQ, HA, HB⟩ := hrel
    obtain ⟨wi, hwi⟩ : ∃ wi, wi = wr := ⟨_, rfl⟩
    rw [← hwi] at HG HA HB ⊢
    clear hwi H0 HF0 HBA HB0 WW0 WH0
    by_cases hlt : pr < n1 / 2
    · have hP : pr < (n - 1) / 2 := by have := HN1.out; omega
      have hPP := Lib.hid hP
      obtain ⟨_, _, _, hr1⟩ := cix_rgt n pr 0 HO.out hn21 hP (by omega)
      obtain ⟨R, hR⟩ : ∃ R, R = rgt n pr := ⟨_, rfl⟩
      rw [← hR] at hr1
      have hRn : R < n := by
        have := (cix_rgt n pr 0 HO.out hn21 hP (by omega)).2.1
        rw [← hR] at this; omega
      have hx0 : (0 : Int) < xv := by rw [HXV.out]; unfold hX; split <;> omega
      have hxb : xv ≤ 200 := by rw [HXV.out]; unfold hX; split <;> omega
      have HX6 : Hid ((xv = 6 ∧ R = 5) ∨ (xv ≠ 6 ∧ xv = (R : Int))) := Lib.hid (by
        rw [HXV.out, hR]; unfold hX rgt
        have := HO.out
        split <;> split <;> omega)
      have HRE := Lib.hid hR
      have HLT1 := Lib.hid hlt
      clear hR hlt hP hpr
      go_upto_if 25 with (fail)
      go_cut [9] (fun a wx => wi = wx ∧ a = .int .i64 (R : Nat))
      case first =>
        by_cases h6 : xv = 6
        · have hR5 : R = 5 := by rcases HX6.out with h | h; exact h.2; exact absurd h6 h.1
          subst hR5
          subst h6
          go_wp2_with fail
          go_meet
          case rel => exact ⟨rfl, rfl⟩
        · have hxR : xv = (R : Int) := by rcases HX6.out with h | h; exact absurd h.1 h6; exact h.2
          have h6b : (xv == 6) = false := by simpa using h6
          go_wp2_with fail
          go_meet
          case rel => exact ⟨rfl, by rw [← hxR]⟩
      case rest =>
        obtain ⟨rfl, rfl⟩ := hcut
        have HYB : Hid (-1 ≤ yv ∧ yv ≤ 200) := Lib.hid (by rw [HYV.out]; unfold hY; split <;> omega)
        clear HX6 hx0 hxb
        go_wp2_with fail
        go_loopw [7, 10] (fun bi y wr => ∃ (j b1 : Nat) (y1 : Int) (q1 : G), j ≤ n ∧ bi = .int .i64 b1 ∧ y = .int .i64 y1 ∧ Hid (b1 = min sz (nb n gv (tix n pr j 0))) ∧ Hid (y1 = hY n pr j) ∧ Hid (MG wr M B n q1) ∧ Hid (∀ r c, r < n → c < n → q1 r c = fl n gv Bs (vM m sz z) (tix n pr j 0) r c) ∧ Hid (BitsA wr p k sz z) ∧ Hid (Mod (MatS B M) w wr)) (fun _ y _ => if pr % 2 = 0 then (intOf y + 1).toNat else (n - intOf y).toNat)
        case atStart => exact ⟨0, b0, yv, q, by omega, rfl, rfl, HBI, HYV, HG, HQ, HA, HB⟩
        case round =>
          obtain ⟨j, b1, y1, q1, hj, rfl, rfl, HBI1, HYV1, HG1, HQ1, HA1, HB1⟩ := hrel
          obtain ⟨wj, hwj⟩ : ∃ wj, wj = wr := ⟨_, rfl⟩
          rw [← hwj] at HG1 HA1 HB1 ⊢
          clear hwj HG HQ HA HB HBI HYB
          have WH := Lib.hid (mat_height M B n _ wj HG1.out)
          by_cases hjn : j < n
          · obtain ⟨r, hr⟩ : ∃ r, r = rowO n pr j := ⟨_, rfl⟩
            have hyr : y1 = (r : Int) := by rw [HYV1.out, hY_row n pr j hjn, hr]
            have hrn : r < n := by rw [hr]; exact rowO_lt n pr j hjn
            subst hyr
            have hy0 : (0 : Int) ≤ (r : Int) := by omega
            have hy1 : (r : Int) < (n : Int) := by omega
            have HR := Lib.hid hr
            have HDV2 : Hid (dv = -1 ∨ dv = 1) := Lib.hid (by rw [HDV.out]; unfold hD; split <;> simp)
            obtain ⟨y2, hy2⟩ : ∃ y2, y2 = (r : Int) + dv := ⟨_, rfl⟩
            have HY2 : Hid (y2 = hY n pr (j + 1)) := Lib.hid (by
              have h1 := HYV1.out
              have h2 := HDV.out
              rw [hy2]
              unfold hY at h1 ⊢
              unfold hD at h2
              by_cases hpe : pr % 2 = 0
              · rw [if_pos hpe] at h1 h2 ⊢; omega
              · rw [if_neg hpe] at h1 h2 ⊢; omega)
            have hy2b : -1 ≤ y2 ∧ y2 ≤ 200 := by rcases HDV2.out with h | h <;> omega
            have hdvb : -1 ≤ dv ∧ dv ≤ 1 := by rcases HDV2.out with h | h <;> omega
            have hy2e : (r : Int) + dv = y2 := hy2.symm
            clear hr hy2
            go_wp2_with fail
            refine WH.out.mono ?_
            rintro e w5 ⟨rfl, rfl⟩
            go_wp2_with fail
            go_loopw [7, 11] (fun bi i wr => ∃ (qq b2 : Nat) (q2 : G), qq ≤ 2 ∧ bi = .int .i64 b2 ∧ i = .int .i64 qq ∧ Hid (b2 = min sz (nb n gv (tix n pr j qq))) ∧ Hid (MG wr M B n q2) ∧ Hid (∀ r c, r < n → c < n → q2 r c = fl n gv Bs (vM m sz z) (tix n pr j qq) r c) ∧ Hid (BitsA wr p k sz z) ∧ Hid (Mod (MatS B M) w wr)) (fun _ i _ => 2 - (intOf i).toNat)
            case atStart => exact ⟨0, b1, q1, by omega, rfl, rfl, HBI1, HG1, HQ1, HA1, HB1⟩
            case round =>
              obtain ⟨qq, b2, q3, hqq, rfl, rfl, HBI2, HG3, HQ3, HA3, HB3⟩ := hrel
              obtain ⟨wk, hwk⟩ : ∃ wk, wk = wr := ⟨_, rfl⟩
              rw [← hwk] at HG3 HA3 HB3 ⊢
              clear hwk HG1 HQ1 HA1 HB1 HBI1 WH
              by_cases hq2 : qq < 2
              · have hq1 : (qq : Int) < 2 := by omega
                have hq0 : (0 : Int) ≤ (qq : Int) := by omega
                have HTL : Hid (tix n pr j qq < (n - 1) * n) := Lib.hid (tix_lt n pr j qq HO.out hPP.out hjn hq2)
                obtain ⟨c, hc⟩ : ∃ c, c = R - qq := ⟨_, rfl⟩
                have hcn : c < n := by omega
                have ec : (R : Int) - (qq : Int) = (c : Int) := by omega
                have hc400 : c ≤ 400 := by omega
                have hr400 : r ≤ 400 := by omega
                have hn400 : n ≤ 400 := by omega
                have HPOS : Hid (pos n (tix n pr j qq) = (r, c)) := Lib.hid (by rw [pos_tix n pr j qq hjn hq2]; unfold posT; rw [← HR.out, ← HRE.out, ← hc])
                obtain ⟨t, ht⟩ : ∃ t, t = tix n pr j qq := ⟨_, rfl⟩
                rw [← ht] at HTL HPOS HBI2 HQ3
                have HTS : Hid (tix n pr j (qq + 1) = t + 1) := Lib.hid (by rw [tix_s, ← ht])
                have hval : q3 r c = Bs r c := by
                  rw [HQ3.out r c hrn hcn]
                  have := fl_here (gv := gv) (B := Bs) (val := vM m sz z) HO.out hn21 HTL.out
                  rw [HPOS.out] at this
                  exact this
                have HGE := Lib.hid (mGet c r hcn hrn hn400 HG3.out)
                have HEM := Lib.hid (isEmp (q3 r c) wk)
                have hbs := HBS.out r c hrn hcn
                have HSZ := Lib.hid (BitsA.size p k sz z wk HA3.out)
                clear hc ht
                cases hgv : gv r c with
                | true =>
                  have hemp : (q3 r c == -1) = false := by
                    rw [hval, beq_eq_false_iff_ne]
                    intro h
                    have := hbs.1 h
                    rw [hgv] at this; cases this
                  rw [hemp] at HEM
                  have HNB : Hid (b2 = min sz (nb n gv (tix n pr j (qq + 1)))) := Lib.hid (by rw [HTS.out, nb_succ, HPOS.out]; simp only [hgv, if_true, Nat.add_zero]; exact HBI2.out)
                  have HQ4 : Hid (∀ r c, r < n → c < n → q3 r c = fl n gv Bs (vM m sz z) (tix n pr j (qq + 1)) r c) := Lib.hid (fun r' c' hr' hc' => by
                    rw [HTS.out, fl_skip HO.out hn21 HTL.out (by rw [HPOS.out]; exact hgv) hr' hc']
                    exact HQ3.out r' c' hr' hc')
                  clear hval hbs hgv hemp HQ3 HBI2
                  go_wp2_with fail
                  refine HGE.out.mono ?_
                  rintro e w5 ⟨rfl, rfl⟩
                  go_wp2_with fail
                  refine HEM.out.mono ?_
                  rintro e w5 ⟨rfl, rfl⟩
                  go_wp2_with fail
                  go_roundw
                  case rel => exact ⟨qq + 1, b2, q3, by omega, rfl, by go_num, HNB, HG3, HQ4, HA3, HB3⟩
                  case measure => simp [intOf]; omega
                | false =>
                  have hemp : (q3 r c == -1) = true := by rw [hval, hbs.2 hgv]; rfl
                  rw [hemp] at HEM
                  have HGV := Lib.hid hgv
                  obtain ⟨kk, hkk⟩ : ∃ kk, kk = nb n gv t := ⟨_, rfl⟩
                  have hkr : kk < 100000 := by
                    have := nb_lt n gv t _ HTL.out (by rw [HPOS.out]; exact hgv)
                    rw [HRM.out] at this; omega
                  have HKK : Hid (nb n gv t = kk) := Lib.hid hkk.symm
                  have HNS : Hid (nb n gv (tix n pr j (qq + 1)) = kk + 1) := Lib.hid (by rw [HTS.out, nb_succ, HPOS.out, hkk]; simp only [hgv, Bool.false_eq_true, if_false])
                  have HBI3 : Hid (b2 = min sz kk) := Lib.hid (by rw [HBI2.out, hkk])
                  have HMK := Lib.hid (maskI m c r hm hc400 hr400 wk)
                  obtain ⟨mb, hmb⟩ : ∃ mb, mb = mkB m c r := ⟨_, rfl⟩
                  rw [← hmb] at HMK
                  have HMB := Lib.hid hmb
                  clear hval hbs hgv hemp hkk HBI2 hmb
                  by_cases hks : kk < sz
                  · have hksi : (kk : Int) < (sz : Int) := by omega
                    obtain rfl : b2 = kk := by have := HBI3.out; omega
                    have HBG := Lib.hid (BitsA.get p k sz z b2 hks (by omega) wk HA3.out)
                    obtain ⟨zk, hzk⟩ : ∃ zk, zk = z b2 := ⟨_, rfl⟩
                    rw [← hzk] at HBG
                    have HVB0 : Hid (vbM m sz z r c b2 = (zk != mb)) := Lib.hid (by unfold vbM; rw [hzk, HMB.out]; simp [hks])
                    have HNB : Hid (Hid (b2 + 1 = min sz (nb n gv (tix n pr j (qq + 1))))) := Lib.hid (Lib.hid (by rw [HNS.out]; omega))
                    clear hzk hks HNS HBI3 HMB
                    cases zk with
                    | true =>
                      cases mb with
                      | true =>
                        have HVB : Hid (vbM m sz z r c b2 = false) := HVB0
                        have HSB := Lib.hid (mSetB c r false hcn hrn hn400 HG3.out)
                        have HG4 := Lib.hid (HG3.out.set_ (r0 := r) (c0 := c) hrn (b8 false))
                        have HB4 := Lib.hid (Mod.mset HB3.out HLT.out (c0 := c) hrn (.int .i8 (b8 false)))
                        have HA4 := Lib.hid (HA3.out.mod (Mod.mset (Mod.refl (S := MatS B M) wk) HLT.out (c0 := c) hrn (.int .i8 (b8 false))) HPK.out.1 HPK.out.2)
                        have HQ4 : Hid (∀ r' c', r' < n → c' < n → upd q3 r c (b8 false) r' c' = fl n gv Bs (vM m sz z) (tix n pr j (qq + 1)) r' c') := Lib.hid (fun r' c' hr' hc' => by
                          rw [HTS.out, fl_set HO.out hn21 HTL.out (by rw [HPOS.out]; exact HGV.out) hr' hc', HPOS.out]
                          unfold upd
                          by_cases e : r' = r ∧ c' = c
                          · rw [if_pos e, if_pos e, e.1, e.2, HKK.out]; unfold vM; rw [HVB.out]
                          · rw [if_neg e, if_neg e]; exact HQ3.out r' c' hr' hc')
                        clear HG3 HB3 HA3 HVB
                        go_wp2_with fail
                        refine HGE.out.mono ?_
                        rintro e w5 ⟨rfl, rfl⟩
                        go_wp2_with fail
                        refine HEM.out.mono ?_
                        rintro e w5 ⟨rfl, rfl⟩
                        go_wp2_with fail
                        refine HSZ.out.mono ?_
                        rintro e w5 ⟨rfl, rfl⟩
                        go_wp2_with fail
                        refine HBG.out.mono ?_
                        rintro e w5 ⟨rfl, rfl⟩
                        go_wp2_with fail
                        refine HMK.out.mono ?_
                        rintro e w5 ⟨rfl, rfl⟩
                        go_wp2_with fail
                        refine HSB.out.mono ?_
                        rintro e w5 ⟨rfl, rfl⟩
                        go_wp2_with fail
                        go_roundw
                        case rel => exact ⟨qq + 1, b2 + 1, _, by omega, by go_num, by go_num, HNB.out, HG4, HQ4, HA4, HB4⟩
                        case measure => simp [intOf]; omega
                      | false =>
                        have HVB : Hid (vbM m sz z r c b2 = true) := HVB0
                        have HSB := Lib.hid (mSetB c r true hcn hrn hn400 HG3.out)
                        have HG4 := Lib.hid (HG3.out.set_ (r0 := r) (c0 := c) hrn (b8 true))
                        have HB4 := Lib.hid (Mod.mset HB3.out HLT.out (c0 := c) hrn (.int .i8 (b8 true)))
                        have HA4 := Lib.hid (HA3.out.mod (Mod.mset (Mod.refl (S := MatS B M) wk) HLT.out (c0 := c) hrn (.int .i8 (b8 true))) HPK.out.1 HPK.out.2)
                        have HQ4 : Hid (∀ r' c', r' < n → c' < n → upd q3 r c (b8 true) r' c' = fl n gv Bs (vM m sz z) (tix n pr j (qq + 1)) r' c') := Lib.hid (fun r' c' hr' hc' => by
                          rw [HTS.out, fl_set HO.out hn21 HTL.out (by rw [HPOS.out]; exact HGV.out) hr' hc', HPOS.out]
                          unfold upd
                          by_cases e : r' = r ∧ c' = c
                          · rw [if_pos e, if_pos e, e.1, e.2, HKK.out]; unfold vM; rw [HVB.out]
                          · rw [if_neg e, if_neg e]; exact HQ3.out r' c' hr' hc')
                        clear HG3 HB3 HA3 HVB
                        go_wp2_with fail
                        refine HGE.out.mono ?_
                        rintro e w5 ⟨rfl, rfl⟩
                        go_wp2_with fail
                        refine HEM.out.mono ?_
                        rintro e w5 ⟨rfl, rfl⟩
                        go_wp2_with fail
                        refine HSZ.out.mono ?_
                        rintro e w5 ⟨rfl, rfl⟩
                        go_wp2_with fail
                        refine HBG.out.mono ?_
                        rintro e w5 ⟨rfl, rfl⟩
                        go_wp2_with fail
                        refine HMK.out.mono ?_
                        rintro e w5 ⟨rfl, rfl⟩
                        go_wp2_with fail
                        refine HSB.out.mono ?_
                        rintro e w5 ⟨rfl, rfl⟩
                        go_wp2_with fail
                        go_roundw
                        case rel => exact ⟨qq + 1, b2 + 1, _, by omega, by go_num, by go_num, HNB.out, HG4, HQ4, HA4, HB4⟩
                        case measure => simp [intOf]; omega
                    | false =>
                      cases mb with
                      | true =>
                        have HVB : Hid (vbM m sz z r c b2 = true) := HVB0
                        have HSB := Lib.hid (mSetB c r true hcn hrn hn400 HG3.out)
                        have HG4 := Lib.hid (HG3.out.set_ (r0 := r) (c0 := c) hrn (b8 true))
                        have HB4 := Lib.hid (Mod.mset HB3.out HLT.out (c0 := c) hrn (.int .i8 (b8 true)))
                        have HA4 := Lib.hid (HA3.out.mod (Mod.mset (Mod.refl (S := MatS B M) wk) HLT.out (c0 := c) hrn (.int .i8 (b8 true))) HPK.out.1 HPK.out.2)
                        have HQ4 : Hid (∀ r' c', r' < n → c' < n → upd q3 r c (b8 true) r' c' = fl n gv Bs (vM m sz z) (tix n pr j (qq + 1)) r' c') := Lib.hid (fun r' c' hr' hc' => by
                          rw [HTS.out, fl_set HO.out hn21 HTL.out (by rw [HPOS.out]; exact HGV.out) hr' hc', HPOS.out]
                          unfold upd
                          by_cases e : r' = r ∧ c' = c
                          · rw [if_pos e, if_pos e, e.1, e.2, HKK.out]; unfold vM; rw [HVB.out]
                          · rw [if_neg e, if_neg e]; exact HQ3.out r' c' hr' hc')
                        clear HG3 HB3 HA3 HVB
                        go_wp2_with fail
                        refine HGE.out.mono ?_
                        rintro e w5 ⟨rfl, rfl⟩
                        go_wp2_with fail
                        refine HEM.out.mono ?_
                        rintro e w5 ⟨rfl, rfl⟩
                        go_wp2_with fail
                        refine HSZ.out.mono ?_
                        rintro e w5 ⟨rfl, rfl⟩
                        go_wp2_with fail
                        refine HBG.out.mono ?_
                        rintro e w5 ⟨rfl, rfl⟩
                        go_wp2_with fail
                        refine HMK.out.mono ?_
                        rintro e w5 ⟨rfl, rfl⟩
                        go_wp2_with fail
                        refine HSB.out.mono ?_
                        rintro e w5 ⟨rfl, rfl⟩
                        go_wp2_with fail
                        go_roundw
                        case rel => exact ⟨qq + 1, b2 + 1, _, by omega, by go_num, by go_num, HNB.out, HG4, HQ4, HA4, HB4⟩
                        case measure => simp [intOf]; omega
                      | false =>
                        have HVB : Hid (vbM m sz z r c b2 = false) := HVB0
                        have HSB := Lib.hid (mSetB c r false hcn hrn hn400 HG3.out)
                        have HG4 := Lib.hid (HG3.out.set_ (r0 := r) (c0 := c) hrn (b8 false))
                        have HB4 := Lib.hid (Mod.mset HB3.out HLT.out (c0 := c) hrn (.int .i8 (b8 false)))
                        have HA4 := Lib.hid (HA3.out.mod (Mod.mset (Mod.refl (S := MatS B M) wk) HLT.out (c0 := c) hrn (.int .i8 (b8 false))) HPK.out.1 HPK.out.2)
                        have HQ4 : Hid (∀ r' c', r' < n → c' < n → upd q3 r c (b8 false) r' c' = fl n gv Bs (vM m sz z) (tix n pr j (qq + 1)) r' c') := Lib.hid (fun r' c' hr' hc' => by
                          rw [HTS.out, fl_set HO.out hn21 HTL.out (by rw [HPOS.out]; exact HGV.out) hr' hc', HPOS.out]
                          unfold upd
                          by_cases e : r' = r ∧ c' = c
                          · rw [if_pos e, if_pos e, e.1, e.2, HKK.out]; unfold vM; rw [HVB.out]
                          · rw [if_neg e, if_neg e]; exact HQ3.out r' c' hr' hc')
                        clear HG3 HB3 HA3 HVB
                        go_wp2_with fail
                        refine HGE.out.mono ?_
                        rintro e w5 ⟨rfl, rfl⟩
                        go_wp2_with fail
                        refine HEM.out.mono ?_
                        rintro e w5 ⟨rfl, rfl⟩
                        go_wp2_with fail
                        refine HSZ.out.mono ?_
                        rintro e w5 ⟨rfl, rfl⟩
                        go_wp2_with fail
                        refine HBG.out.mono ?_
                        rintro e w5 ⟨rfl, rfl⟩
                        go_wp2_with fail
                        refine HMK.out.mono ?_
                        rintro e w5 ⟨rfl, rfl⟩
                        go_wp2_with fail
                        refine HSB.out.mono ?_
                        rintro e w5 ⟨rfl, rfl⟩
                        go_wp2_with fail
                        go_roundw
                        case rel => exact ⟨qq + 1, b2 + 1, _, by omega, by go_num, by go_num, HNB.out, HG4, HQ4, HA4, HB4⟩
                        case measure => simp [intOf]; omega
                  · have hksi : ((b2 : Int) < (sz : Int)) = False := by have := HBI3.out; simp; omega
                    obtain rfl : b2 = sz := by have := HBI3.out; omega
                    have HVB0 : Hid (vbM m b2 z r c kk = (false != mb)) := Lib.hid (by unfold vbM; rw [HMB.out]; simp [hks])
                    have HNB : Hid (Hid (b2 = min b2 (nb n gv (tix n pr j (qq + 1))))) := Lib.hid (Lib.hid (by rw [HNS.out]; omega))
                    clear hks HNS HBI3 HMB
                    cases mb with
                    | true =>
                      have HVB : Hid (vbM m b2 z r c kk = true) := HVB0
                      have HSB := Lib.hid (mSetB c r true hcn hrn hn400 HG3.out)
                      have HG4 := Lib.hid (HG3.out.set_ (r0 := r) (c0 := c) hrn (b8 true))
                      have HB4 := Lib.hid (Mod.mset HB3.out HLT.out (c0 := c) hrn (.int .i8 (b8 true)))
                      have HA4 := Lib.hid (HA3.out.mod (Mod.mset (Mod.refl (S := MatS B M) wk) HLT.out (c0 := c) hrn (.int .i8 (b8 true))) HPK.out.1 HPK.out.2)
                      have HQ4 : Hid (∀ r' c', r' < n → c' < n → upd q3 r c (b8 true) r' c' = fl n gv Bs (vM m b2 z) (tix n pr j (qq + 1)) r' c') := Lib.hid (fun r' c' hr' hc' => by
                        rw [HTS.out, fl_set HO.out hn21 HTL.out (by rw [HPOS.out]; exact HGV.out) hr' hc', HPOS.out]
                        unfold upd
                        by_cases e : r' = r ∧ c' = c
                        · rw [if_pos e, if_pos e, e.1, e.2, HKK.out]; unfold vM; rw [HVB.out]
                        · rw [if_neg e, if_neg e]; exact HQ3.out r' c' hr' hc')
                      clear HG3 HB3 HA3 HVB
                      go_wp2_with fail
                      refine HGE.out.mono ?_
                      rintro e w5 ⟨rfl, rfl⟩
                      go_wp2_with fail
                      refine HEM.out.mono ?_
                      rintro e w5 ⟨rfl, rfl⟩
                      go_wp2_with fail
                      refine HSZ.out.mono ?_
                      rintro e w5 ⟨rfl, rfl⟩
                      go_wp2_with fail
                      refine HMK.out.mono ?_
                      rintro e w5 ⟨rfl, rfl⟩
                      go_wp2_with fail
                      refine HSB.out.mono ?_
                      rintro e w5 ⟨rfl, rfl⟩
                      go_wp2_with fail
                      go_roundw
                      case rel => exact ⟨qq + 1, b2, _, by omega, rfl, by go_num, HNB.out, HG4, HQ4, HA4, HB4⟩
                      case measure => simp [intOf]; omega
                    | false =>
                      have HVB : Hid (vbM m b2 z r c kk = false) := HVB0
                      have HSB := Lib.hid (mSetB c r false hcn hrn hn400 HG3.out)
                      have HG4 := Lib.hid (HG3.out.set_ (r0 := r) (c0 := c) hrn (b8 false))
                      have HB4 := Lib.hid (Mod.mset HB3.out HLT.out (c0 := c) hrn (.int .i8 (b8 false)))
                      have HA4 := Lib.hid (HA3.out.mod (Mod.mset (Mod.refl (S := MatS B M) wk) HLT.out (c0 := c) hrn (.int .i8 (b8 false))) HPK.out.1 HPK.out.2)
                      have HQ4 : Hid (∀ r' c', r' < n → c' < n → upd q3 r c (b8 false) r' c' = fl n gv Bs (vM m b2 z) (tix n pr j (qq + 1)) r' c') := Lib.hid (fun r' c' hr' hc' => by
                        rw [HTS.out, fl_set HO.out hn21 HTL.out (by rw [HPOS.out]; exact HGV.out) hr' hc', HPOS.out]
                        unfold upd
                        by_cases e : r' = r ∧ c' = c
                        · rw [if_pos e, if_pos e, e.1, e.2, HKK.out]; unfold vM; rw [HVB.out]
                        · rw [if_neg e, if_neg e]; exact HQ3.out r' c' hr' hc')
                      clear HG3 HB3 HA3 HVB
                      go_wp2_with fail
                      refine HGE.out.mono ?_
                      rintro e w5 ⟨rfl, rfl⟩
                      go_wp2_with fail
                      refine HEM.out.mono ?_
                      rintro e w5 ⟨rfl, rfl⟩
                      go_wp2_with fail
                      refine HSZ.out.mono ?_
                      rintro e w5 ⟨rfl, rfl⟩
                      go_wp2_with fail
                      refine HMK.out.mono ?_
                      rintro e w5 ⟨rfl, rfl⟩
                      go_wp2_with fail
                      refine HSB.out.mono ?_
                      rintro e w5 ⟨rfl, rfl⟩
                      go_wp2_with fail
                      go_roundw
                      case rel => exact ⟨qq + 1, b2, _, by omega, rfl, by go_num, HNB.out, HG4, HQ4, HA4, HB4⟩
                      case measure => simp [intOf]; omega
              · obtain rfl : qq = 2 := by omega
                go_wp2_with fail
                go_roundw
                case rel => exact ⟨j + 1, b2, y2, q3, by omega, rfl, rfl, Lib.hid (by rw [← tix_q]; exact HBI2.out), HY2, HG3, Lib.hid (by rw [← tix_q]; exact HQ3.out), HA3, HB3⟩
                case measure =>
                  have h1 := HY2.out
                  have h2 := HYV1.out
                  unfold hY at h1 h2
                  by_cases hpe : pr % 2 = 0
                  · rw [if_pos hpe] at h1 h2
                    simp [intOf, hpe]; omega
                  · rw [if_neg hpe] at h1 h2
                    simp [intOf, hpe]; omega
          · obtain rfl : j = n := by omega
            obtain ⟨d2, hd2⟩ : ∃ d2, d2 = -dv := ⟨_, rfl⟩
            have HDV2 : Hid (dv = -1 ∨ dv = 1) := Lib.hid (by rw [HDV.out]; unfold hD; split <;> simp)
            have hdvb : -1 ≤ dv ∧ dv ≤ 1 := by rcases HDV2.out with h | h <;> omega
            have hd2b : -1 ≤ d2 ∧ d2 ≤ 1 := by omega
            obtain ⟨y3, hy3⟩ : ∃ y3, y3 = y1 + d2 := ⟨_, rfl⟩
            have hy1b : -1 ≤ y1 ∧ y1 ≤ 201 := by rw [HYV1.out]; unfold hY; split <;> omega
            have hy3b : -2 ≤ y3 ∧ y3 ≤ 202 := by omega
            obtain ⟨x3, hx3⟩ : ∃ x3, x3 = (R : Int) - 2 := ⟨_, rfl⟩
            have hx3b : -2 ≤ x3 ∧ x3 ≤ 202 := by omega
            have HD2 : Hid (d2 = hD (pr + 1)) := Lib.hid (by rw [hd2, HDV.out]; unfold hD; split <;> split <;> omega)
            have HY3 : Hid (y3 = hY j (pr + 1) 0) := Lib.hid (by rw [hy3, hd2, HYV1.out, HDV.out]; unfold hY hD; split <;> split <;> omega)
            have HX3 : Hid (x3 = hX j (pr + 1)) := Lib.hid (by
              have h1 := HRE.out
              have h2 := HO.out
              have h3 := hPP.out
              unfold rgt at h1
              rw [hx3]; unfold hX
              split at h1 <;> split <;> omega)
            have HBI3 : Hid (b1 = min sz (nb j gv (tix j (pr + 1) 0 0))) := Lib.hid (by rw [← tix_p]; exact HBI1.out)
            have HQ5 : Hid (∀ r c, r < j → c < j → q1 r c = fl j gv Bs (vM m sz z) (tix j (pr + 1) 0 0) r c) := Lib.hid (by rw [← tix_p]; exact HQ1.out)
            have hd2e : -dv = d2 := hd2.symm
            have hy3e : y1 + d2 = y3 := hy3.symm
            have hx3e : (R : Int) - 2 = x3 := hx3.symm
            have HXM : Hid ((x3 + 2).toNat < (xv + 2).toNat) := Lib.hid (by
              have h1 := HXV.out
              have h2 := HX3.out
              have h3 := hPP.out
              have h4 := HO.out
              unfold hX at h1 h2
              split at h1 <;> split at h2 <;> omega)
            have hpl : pr + 1 ≤ n1 / 2 := by have := HLT1.out; omega
            have HOUTB : Hid ((y1 = -1) ∨ (y1 = (j : Int))) := Lib.hid (by rw [HYV1.out]; unfold hY; split <;> omega)
            clear hd2 hy3 hx3 HBI1 HQ1
            by_cases hyn : y1 = -1
            · subst hyn
              go_wp2_with fail
              go_roundw
              case rel => exact ⟨pr + 1, b1, d2, x3, y3, q1, hpl, rfl, rfl, rfl, rfl, HBI3, HD2, HX3, HY3, HG1, HQ5, HA1, HB1⟩
              case measure => simp [intOf]; have := HXM.out; omega
            · have hyj : y1 = (j : Int) := by rcases HOUTB.out with h | h; exact absurd h hyn; exact h
              subst hyj
              have hy0 : (0 : Int) ≤ (j : Int) := by omega
              go_wp2_with fail
              refine WH.out.mono ?_
              rintro e w5 ⟨rfl, rfl⟩
              go_wp2_with fail
              go_roundw
              case rel => exact ⟨pr + 1, b1, d2, x3, y3, q1, hpl, rfl, rfl, rfl, rfl, HBI3, HD2, HX3, HY3, HG1, HQ5, HA1, HB1⟩
              case measure => simp [intOf]; have := HXM.out; omega
    · obtain rfl : pr = n1 / 2 := by omega
      have hxv : xv = -1 := by
        have h1 := HN1.out
        have h2 := HO.out
        rw [HXV.out]; unfold hX
        rw [if_neg (by omega)]; omega
      subst hxv
      have HEND : Hid (tix n (n1 / 2) 0 0 = (n - 1) * n) := Lib.hid (by
        have h1 := HN1.out
        have h2 := HO.out
        unfold tix
        rw [Nat.add_zero, Nat.add_zero, Nat.mul_right_comm, show n1 / 2 * 2 = n - 1 by omega])
      have HBE : Hid (b0 = min sz rm) := Lib.hid (by rw [HBI.out, HEND.out, HRM.out])
      have HQE : Hid (∀ r c, r < n → c < n → q r c = fl n gv Bs (vM m sz z) ((n - 1) * n) r c) := Lib.hid (by rw [← HEND.out]; exact HQ.out)
      have HSZ := Lib.hid (BitsA.size p k sz z wi HA.out)
      by_cases hfit : sz ≤ rm
      · obtain rfl : b0 = sz := by have := HBE.out; omega
        go_wp2_with fail
        refine HSZ.out.mono ?_
        rintro e w5 ⟨rfl, rfl⟩
        go_wp2_with fail
        go_ret
        exact .inl ⟨hfit, rfl, Lib.hid (HG.out.congr fun r c hr hc => HQE.out r c hr hc), HB⟩
      · have hbne : ((b0 : Int) == (sz : Int)) = false := by have := HBE.out; simp; omega
        have hb0l : b0 < 100000 := by have := HBE.out; omega
        go_wp2_with fail
        refine HSZ.out.mono ?_
        rintro e w5 ⟨rfl, rfl⟩
        go_wp2_with fail
        refine HSZ.out.mono ?_
        rintro e w5 ⟨rfl, rfl⟩
        go_wp2_with fail
        refine (writer_new _ _ _ _).mono ?_
        rintro e w6 ⟨v, rfl, hv, hb6⟩
        go_wp2_with fail
        go_ret
        exact .inr ⟨by omega, v, rfl, hv, Lib.hid ((HB.out.alloc _).then (Mod.of_below (S := fun _ => False) hb6) (fun i _ h => False.elim h))⟩
end Go.Proofs.Ythkiajighmhdoaa
