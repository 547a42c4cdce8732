/-
  The reference's order of the data modules; the symbol's modules, walked. No condition beyond the bounds that each theorem states.
-/
import Derived.Test.YthkiajighmhdoaaQLF
import Derived.Test.YthkiajighmhdoaaPSH
import Derived.Deep.Onto
namespace Go.Proofs.Ythkiajighmhdoaa
open Go.RowKit Go.Qz Go.Qz.QK Go.Qz.QW
open Go.Qz.QB (fb vb rrest vb_lt fb_lt)
set_option linter.unusedVariables false

theorem wpList_pushP {P : Program} {W : World} {ops : Array Oper} {rest : List Oper} {o : Oper} {a : Act} {Q : Exit → Act → World → Prop} (s x : Operand) (t : TypeId)
    (base : Nat) (e : TypeId) (z : Value) (size bytes : Nat) (v : Value) (n : Nat) (xs : List Value) (us : List Value) (hul : us.length = size) (hsz : 0 < size)
    (hgd : o.guard = none) (ho : o.op = .call { callee := .builtin .append, args := #[s, x], argTypes := #[t, t] })
    (hs : a.eval s = v) (hx : a.eval x = .slice (some ⟨W.heap.size, 0, none⟩) 1 1)
    (ht : P.underlying t = some (.slice e)) (hi : (P.info? e).map (fun i => (i.zero, i.size, i.bytes)) = some (some z, size, bytes)) (hzs : z.cells.size = size) (h1 : ∀ u ∈ us, u.oneCell' = true) (hb : bytes ≤ 64)
    (hown : W.ownsRow base e size v n xs) (hn : n < 1099511627776) (hbase : base ≤ W.heap.size)
    (h : ∀ v' w', w'.ownsRow base e size v' (n + 1) (xs ++ us) → W.grownBy w' v.ownBlock → Below base W w' → (v'.ownBlock = v.ownBlock ∨ v'.ownBlock = some (W.heap.size + 1)) → wpList P ops Q rest (a.put o.dst v') w') :
    wpList P ops Q (o :: rest) a (W.alloc (.cells us.toArray e)) := by
  obtain ⟨i0, hi, hz0, hz1, hz2⟩ := info_parts hi
  refine wpList_append_own_at _ hgd s x t ho base e i0 z size bytes ht hi hz0 hz1 hz2 hzs hsz v n xs hs (hown.alloc _) ⟨W.heap.size, 0, none⟩ 1 1 us hx (by rw [Nat.one_mul]; exact hul) ?_ h1 ?_ ?_ ?_ ?_
  · intro j u' hu
    rw [Addr.add_lit, World.cell?_alloc_at _ _ _ _ rfl]
    simpa using hu
  · unfold maxLen; omega
  · have : (n + 1) * bytes ≤ 1099511627776 * 64 := Nat.mul_le_mul (by omega) hb
    omega
  · simp; omega
  · intro v' w' g1 g2 _ g4
    have g3 : W.grownBy w' v.ownBlock :=
      ⟨g2.os, g2.tape, g2.output, Nat.le_trans (by simp) g2.size, fun k hk hne => (g2.block k (by simp; omega) hne).trans (Below.heap_alloc W _ k hk)⟩
    exact h v' w' g1 g3 ((Below.refl _ _).grown g3 hbase fun k hk => (hown.lt k hk).1) (by simpa using g4)
theorem Try.infoPair : (Try.prog.info? 84).map (fun i => (i.zero, i.size, i.bytes)) = some (some (.agg #[.int .i64 0, .int .i64 0]), 2, 16) := by kernel_rfl
/-- Pairs of numbers as cells. -/
def wcs (l : List (Nat × Nat)) : List Value := l.flatMap fun p => [.int .i64 p.1, .int .i64 p.2]
theorem wcs_snoc (l : List (Nat × Nat)) (a b : Nat) : wcs (l ++ [(a, b)]) = wcs l ++ [.int .i64 a, .int .i64 b] := by unfold wcs; rw [List.flatMap_append]; rfl
theorem wcs_at : ∀ (l : List (Nat × Nat)) (k : Nat) (x : Nat × Nat), l[k]? = some x → (wcs l)[2 * k]? = some (.int .i64 x.1) ∧ (wcs l)[2 * k + 1]? = some (.int .i64 x.2)
  | [], k, x, h => by simp at h
  | p :: r, 0, x, h => by
    simp at h; subst h
    exact ⟨rfl, rfl⟩
  | p :: r, k + 1, x, h => by
    have ih := wcs_at r k x (by simpa using h)
    have e : wcs (p :: r) = .int .i64 p.1 :: .int .i64 p.2 :: wcs r := rfl
    rw [e, show 2 * (k + 1) = 2 * k + 1 + 1 by omega, show 2 * k + 1 + 1 + 1 = (2 * k + 1) + 1 + 1 by omega]
    simp only [List.getElem?_cons_succ]
    exact ih
theorem two_one (a b : Nat) : ∀ u ∈ [Value.int .i64 (a : Nat), Value.int .i64 (b : Nat)], u.oneCell' = true := by
  intro u hu
  rcases List.mem_cons.1 hu with e | hu
  · rw [e]; rfl
  · rw [List.mem_singleton.1 hu]; rfl
/-- Where a pair walk stands. -/
def sX (n p : Nat) : Int := if 7 + 2 * p ≤ n then (n : Int) - 1 - 2 * p else (n : Int) - 2 - 2 * p
theorem tixq (n p j : Nat) : tix n p j 2 = tix n p (j + 1) 0 := by unfold tix; omega
theorem tixs (n p j q : Nat) : tix n p j (q + 1) = tix n p j q + 1 := rfl
theorem tixp (n p : Nat) : tix n p n 0 = tix n (p + 1) 0 0 := by
  have h := Nat.add_mul p 1 n
  rw [Nat.one_mul] at h
  unfold tix; omega
theorem wy_len (n : Nat) (gv : Nat → Nat → Bool) (T : Nat) : (wy n gv T).length ≤ T := by
  have := List.length_filter_le (fun x => !gv x.1 x.2) ((List.range T).map (pos n))
  unfold wy; simpa using this
def WayPost (n : Nat) (gv : Nat → Nat → Bool) (w : World) (e : Ending) (w' : World) : Prop := ∃ x, e = .returned x ∧ Hid (w'.ownsRow w.heap.size 84 2 x (wy n gv ((n - 1) * n)).length (wcs (wy n gv ((n - 1) * n)))) ∧ Hid (Below w.heap.size w w')
set_option maxRecDepth 100000 in
set_option maxHeartbeats 12800000 in
theorem sWay (v : Nat) (h1 : 1 ≤ v) (h2 : v ≤ 40) (w : World) :
    Calls Try.prog 38 #[.int .i64 v] w (WayPost (dimOf v) (gvB v) w) := by
  obtain ⟨n, hnv⟩ : ∃ n, n = dimOf v := ⟨_, rfl⟩
  have hn : n ≤ 200 := by rw [hnv]; unfold dimOf; omega
  have hn21 : 21 ≤ n := by rw [hnv]; unfold dimOf; omega
  have ho : n % 2 = 1 := by rw [hnv]; unfold dimOf; omega
  have HDI := Lib.hid (dimension v (by omega) w)
  have HGI := Lib.hid (sGivens v h1 h2 w)
  rw [← hnv] at HDI HGI ⊢
  obtain ⟨gv, hgv⟩ : ∃ gv, gv = gvB v := ⟨_, rfl⟩
  rw [← hgv] at HGI ⊢
  have HO := Lib.hid ho
  obtain ⟨n1, hn1⟩ : ∃ n1, n1 = n - 1 := ⟨_, rfl⟩
  have en : (n : Int) - 1 = (n1 : Int) := by omega
  have HN1 : Hid (n1 + 1 = n) := Lib.hid (by omega)
  have hn1b : n1 ≤ 200 := by omega
  have hNN : (n - 1) * n ≤ 200 * 200 := Nat.mul_le_mul (by omega) hn
  have HNN := Lib.hid hNN
  clear h1 h2 hnv hgv ho hn1 hNN
  go_enter Try.func38, Try.ntmps38
  go_wp2_with fail
  refine HDI.out.mono ?_
  rintro e w1 ⟨rfl, rfl⟩
  go_wp2_with fail
  refine HGI.out.mono ?_
  rintro e w2 ⟨G, rfl, HG, HB2, HGW, HGL⟩
  clear HDI HGI
  go_wp2_with fail
  go_loopw [5, 6, 7] (fun x u ri wr => ∃ (pr : Nat) (ub : Bool) (xv : Int), pr ≤ n1 / 2 ∧ u = .bool ub ∧ ri = .int .i64 xv ∧ Hid (ub = decide (pr % 2 = 0)) ∧ Hid (xv = sX n pr) ∧ Hid (wr.ownsRow w2.heap.size 84 2 x (wy n gv (tix n pr 0 0)).length (wcs (wy n gv (tix n pr 0 0)))) ∧ Hid (Below w2.heap.size w2 wr)) (fun _ _ x _ => (intOf x + 2).toNat)
  case atStart => exact ⟨0, true, n1, by omega, rfl, rfl, Lib.hid rfl, Lib.hid (by have := HN1.out; unfold sX; split <;> omega), Lib.hid (by rw [show tix n 0 0 0 = 0 by simp [tix]]; exact World.ownsRow_nil _ _ _ _), Lib.hid (Below.refl _ _)⟩
  case round =>
    obtain ⟨pr, ub, xv, hpr, rfl, rfl, HUB, HXV, HOW, HB⟩ := hrel
    obtain ⟨wi, hwi⟩ : ∃ wi, wi = wr := ⟨_, rfl⟩
    rw [← hwi] at HOW HB ⊢
    clear hwi
    by_cases hlt : pr < n1 / 2
    · have hP : pr < (n - 1) / 2 := by have := HN1.out; omega
      have hPP := Lib.hid hP
      obtain ⟨_, hRn', _, hr1⟩ := cix_rgt n pr 0 HO.out hn21 hP (by omega)
      obtain ⟨R, hR⟩ : ∃ R, R = rgt n pr := ⟨_, rfl⟩
      rw [← hR] at hr1 hRn'
      have hRn : R < n := by omega
      have hx0 : (0 : Int) < xv := by rw [HXV.out]; unfold sX; split <;> omega
      have hxb : xv ≤ 200 := by rw [HXV.out]; unfold sX; split <;> omega
      have HX6 : Hid ((xv = 6 ∧ R = 5) ∨ (xv ≠ 6 ∧ xv = (R : Int))) := Lib.hid (by
        rw [HXV.out, hR]; unfold sX rgt
        have := HO.out
        split <;> split <;> omega)
      have HRE := Lib.hid hR
      have HLT1 := Lib.hid hlt
      clear hR hlt hP hpr hRn'
      go_upto_if 22 with (fail)
      go_cut [7] (fun a wx => wi = wx ∧ a = .int .i64 (R : Nat))
      case first =>
        by_cases h6 : xv = 6
        · have hR5 : R = 5 := by rcases HX6.out with h | h; exact h.2; exact absurd h6 h.1
          subst hR5
          subst h6
          go_wp2_with fail
          go_meet
          case rel => exact ⟨rfl, rfl⟩
        · have hxR : xv = (R : Int) := by rcases HX6.out with h | h; exact absurd h.1 h6; exact h.2
          have h6b : (xv == 6) = false := by simpa using h6
          go_wp2_with fail
          go_meet
          case rel => exact ⟨rfl, by rw [← hxR]⟩
      case rest =>
        obtain ⟨rfl, rfl⟩ := hcut
        clear HX6 hx0 hxb
        go_wp2_with fail
        go_loopw [5, 8] (fun x i wr => ∃ j : Nat, j ≤ n ∧ i = .int .i64 j ∧ Hid (wr.ownsRow w2.heap.size 84 2 x (wy n gv (tix n pr j 0)).length (wcs (wy n gv (tix n pr j 0)))) ∧ Hid (Below w2.heap.size w2 wr)) (fun _ i _ => n - (intOf i).toNat)
        case atStart => exact ⟨0, by omega, rfl, HOW, HB⟩
        case round =>
          obtain ⟨j, hj, rfl, HOW1, HB1⟩ := hrel
          obtain ⟨wj, hwj⟩ : ∃ wj, wj = wr := ⟨_, rfl⟩
          rw [← hwj] at HOW1 HB1 ⊢
          clear hwj HOW HB
          by_cases hjn : j < n
          · have hj1 : (j : Int) < (n : Int) := by omega
            have hj0 : (0 : Int) ≤ (j : Int) := by omega
            obtain ⟨r, hr⟩ : ∃ r, r = rowO n pr j := ⟨_, rfl⟩
            have hrn : r < n := by rw [hr]; exact rowO_lt n pr j hjn
            have HR := Lib.hid hr
            obtain ⟨uj, huj⟩ : ∃ uj : Int, uj = (n1 : Int) - j := ⟨_, rfl⟩
            have euj : (n1 : Int) - (j : Int) = uj := huj.symm
            have HUJ : Hid (ub = true → uj = (r : Int)) := Lib.hid (fun h => by
              have h1 := HUB.out
              rw [h, eq_comm, decide_eq_true_eq] at h1
              rw [huj, hr]; unfold rowO; rw [if_pos h1]; have := HN1.out; omega)
            have HUJ2 : Hid (ub = false → (j : Int) = (r : Int)) := Lib.hid (fun h => by
              have h1 := HUB.out
              rw [h, eq_comm, decide_eq_false_iff_not] at h1
              rw [hr]; unfold rowO; rw [if_neg h1])
            have hujb : -1 ≤ uj ∧ uj ≤ 200 := by have := HN1.out; omega
            clear hr huj
            go_upto_if 29 with (fail)
            go_cut [9] (fun a wx => wj = wx ∧ a = .int .i64 (r : Nat))
            case first =>
              cases ub with
              | true =>
                have he := HUJ.out rfl
                subst he
                go_wp2_with fail
                go_meet
                case rel => exact ⟨rfl, rfl⟩
              | false =>
                obtain rfl : r = j := by have := HUJ2.out rfl; omega
                go_wp2_with fail
                go_meet
                case rel => exact ⟨rfl, rfl⟩
            case rest =>
              obtain ⟨rfl, rfl⟩ := hcut
              clear HUJ HUJ2
              have hr0 : (0 : Int) ≤ (r : Int) := by omega
              have hr1' : (r : Int) < (n : Int) := by omega
              have eR1 : (R : Int) - 1 = ((R - 1 : Nat) : Int) := by omega
              obtain ⟨R1, hR1⟩ : ∃ R1, R1 = R - 1 := ⟨_, rfl⟩
              rw [← hR1] at eR1
              have HR1 : Hid (R1 + 1 = R) := Lib.hid (by omega)
              have hR1b : R1 ≤ 200 := by omega
              clear hR1
              go_wp2_with fail
              go_loopw [5, 10] (fun x c wr => ∃ (qq : Nat) (cv : Int), qq ≤ 2 ∧ cv = (R : Int) - qq ∧ c = .int .i64 cv ∧ Hid (wr.ownsRow w2.heap.size 84 2 x (wy n gv (tix n pr j qq)).length (wcs (wy n gv (tix n pr j qq)))) ∧ Hid (Below w2.heap.size w2 wr)) (fun _ c _ => (intOf c - R1 + 1).toNat)
              case atStart => exact ⟨0, R, by omega, by omega, rfl, HOW1, HB1⟩
              case round =>
                obtain ⟨qq, cv, hqq, hcv, rfl, HOW2, HB2'⟩ := hrel
                obtain ⟨wk, hwk⟩ : ∃ wk, wk = wr := ⟨_, rfl⟩
                rw [← hwk] at HOW2 HB2' ⊢
                clear hwk HOW1 HB1
                by_cases hq2 : qq < 2
                · have HTL : Hid (tix n pr j qq < (n - 1) * n) := Lib.hid (tix_lt n pr j qq HO.out hPP.out hjn hq2)
                  obtain ⟨c, rfl⟩ : ∃ c : Nat, cv = c := ⟨R - qq, by have := HR1.out; omega⟩
                  have hcR : c = R - qq := by omega
                  have hcn : c < n := by omega
                  have hcc : (R1 : Int) ≤ (c : Int) := by have := HR1.out; omega
                  have hc0 : (0 : Int) ≤ (c : Int) := by omega
                  have hc1 : (c : Int) < (n : Int) := by omega
                  have HPOS : Hid (pos n (tix n pr j qq) = (r, c)) := Lib.hid (by rw [pos_tix n pr j qq hjn hq2]; unfold posT; rw [← HR.out, ← HRE.out, ← hcR])
                  have HC1 : Hid ((c : Int) - 1 = (R : Int) - ((qq + 1 : Nat) : Int)) := Lib.hid (by omega)
                  obtain ⟨t, ht⟩ : ∃ t, t = tix n pr j qq := ⟨_, rfl⟩
                  rw [← ht] at HTL HPOS HOW2
                  have HTS : Hid (tix n pr j (qq + 1) = t + 1) := Lib.hid (by rw [tixs, ← ht])
                  have HWS := Lib.hid (wy_succ n gv t)
                  have hwl := wy_len n gv t
                  have hwl2 : (wy n gv t).length < 100000 := by have := HTL.out; have := HNN.out; omega
                  have c0 := (HB2'.out.cell (p := ⟨G, r, none⟩) HG.out.hd.lt).trans (HG.out.head r hrn hrn)
                  have c1 := (HB2'.out.cell (p := ⟨G + 1 + r, c, none⟩) (HG.out.row r hrn).lt).trans (HG.out.cell r c hrn hcn)
                  obtain ⟨cm1, hcm1⟩ : ∃ cm1 : Int, cm1 = (c : Int) - 1 := ⟨_, rfl⟩
                  have ecm1 : (c : Int) - 1 = cm1 := hcm1.symm
                  have hcm1b : -1 ≤ cm1 ∧ cm1 ≤ 200 := by omega
                  have HCM : Hid (cm1 = (R : Int) - ((qq + 1 : Nat) : Int)) := Lib.hid (by omega)
                  clear hcv hcR ht hwl hcm1
                  cases hgv : gv r c with
                  | true =>
                    rw [hgv] at c1
                    have HOW4 := HOW2
                    rw [show wy n gv t = wy n gv (tix n pr j (qq + 1)) by
                      rw [HTS.out, HWS.out, HPOS.out]
                      simp only [hgv, if_true, List.append_nil]] at HOW4
                    clear hgv HOW2
                    go_wp2_with fail
                    go_roundw
                    case rel => exact ⟨qq + 1, cm1, by omega, HCM.out, rfl, HOW4, HB2'⟩
                    case measure => simp [intOf]; omega
                  | false =>
                    rw [hgv] at c1
                    have HWN : Hid (wy n gv (tix n pr j (qq + 1)) = wy n gv t ++ [(r, c)]) := Lib.hid (by
                      rw [HTS.out, HWS.out, HPOS.out]
                      simp only [hgv, Bool.false_eq_true, if_false])
                    clear hgv
                    go_wp2_with (at_builtin; refine wpList_pushP _ _ 82 w2.heap.size 84 (.agg #[.int .i64 0, .int .i64 0]) 2 16 _ (wy n gv t).length (wcs (wy n gv t)) [.int .i64 (r : Nat), .int .i64 (c : Nat)] rfl (by decide) rfl rfl rfl rfl Try.underlying82 Try.infoPair rfl (two_one r c) (by decide) HOW2.out (by omega) HB2'.out.size ?_)
                    intro v' w3 hown3 hg3 hb3 hl3
                    have HOW4 : Hid (w3.ownsRow w2.heap.size 84 2 v' (wy n gv (tix n pr j (qq + 1))).length (wcs (wy n gv (tix n pr j (qq + 1))))) := Lib.hid (by
                      rw [HWN.out, wcs_snoc, List.length_append]
                      exact hown3)
                    have HB4 : Hid (Below w2.heap.size w2 w3) := Lib.hid (HB2'.out.trans hb3)
                    clear hown3 hg3 hb3 hl3 HOW2 HB2'
                    go_wp2_with fail
                    go_roundw
                    case rel => exact ⟨qq + 1, cm1, by omega, HCM.out, rfl, HOW4, HB4⟩
                    case measure => simp [intOf]; omega
                · obtain rfl : qq = 2 := by omega
                  have hcc : ((R1 : Int) ≤ cv) = False := by have := HR1.out; simp; omega
                  have hcvb : -2 ≤ cv ∧ cv ≤ 200 := by omega
                  go_wp2_with fail
                  go_roundw
                  case rel => exact ⟨j + 1, by omega, by go_num, Lib.hid (by rw [← tixq]; exact HOW2.out), HB2'⟩
                  case measure => simp [intOf]; omega
          · obtain rfl : j = n := by omega
            obtain ⟨x3, hx3⟩ : ∃ x3, x3 = (R : Int) - 2 := ⟨_, rfl⟩
            have hx3b : -2 ≤ x3 ∧ x3 ≤ 202 := by omega
            have hx3e : (R : Int) - 2 = x3 := hx3.symm
            have HX3 : Hid (x3 = sX j (pr + 1)) := Lib.hid (by
              have h1 := HRE.out
              have h2 := HO.out
              have h3 := hPP.out
              unfold rgt at h1
              rw [hx3]; unfold sX
              split at h1 <;> split <;> omega)
            have HXM : Hid ((x3 + 2).toNat < (xv + 2).toNat) := Lib.hid (by
              have h1 := HXV.out
              have h2 := HX3.out
              have h3 := hPP.out
              have h4 := HO.out
              unfold sX at h1 h2
              split at h1 <;> split at h2 <;> omega)
            have HU3 : Hid ((!ub) = decide ((pr + 1) % 2 = 0)) := Lib.hid (by
              rw [HUB.out]
              by_cases h : pr % 2 = 0
              · rw [decide_eq_true h, decide_eq_false (by omega)]; rfl
              · rw [decide_eq_false h, decide_eq_true (by omega)]; rfl)
            have hpl : pr + 1 ≤ n1 / 2 := by have := HLT1.out; omega
            clear hx3
            go_wp2_with fail
            go_roundw
            case rel => exact ⟨pr + 1, !ub, x3, hpl, rfl, rfl, HU3, HX3, Lib.hid (by rw [← tixp]; exact HOW1.out), HB1⟩
            case measure => simp [intOf]; have := HXM.out; omega
    · obtain rfl : pr = n1 / 2 := by omega
      have hxv : xv = -1 := by
        have h1 := HN1.out
        have h2 := HO.out
        rw [HXV.out]; unfold sX
        rw [if_neg (by omega)]; omega
      subst hxv
      have HEND : Hid (tix n (n1 / 2) 0 0 = (n - 1) * n) := Lib.hid (by
        have h1 := HN1.out
        have h2 := HO.out
        unfold tix
        rw [Nat.add_zero, Nat.add_zero, Nat.mul_right_comm, show n1 / 2 * 2 = n - 1 by omega])
      go_wp2_with fail
      go_ret
      exact ⟨_, rfl, Lib.hid (by rw [← HEND.out]; exact World.ownsRow.mono HOW.out HB2.out.size), Lib.hid (HB2.out.trans (HB.out.mono HB2.out.size))⟩
end Go.Proofs.Ythkiajighmhdoaa
