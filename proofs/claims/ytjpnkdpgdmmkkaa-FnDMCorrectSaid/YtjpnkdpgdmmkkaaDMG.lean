/-
  Data Matrix: createECCBlock, walked. No condition beyond the bounds that the theorem states.
-/
import Derived.Test.YtjpnkdpgdmmkkaaDMF
import Derived.BigQuiet
import Derived.BigRegion
namespace Go.Proofs.Ytjpnkdpgdmmkkaa
open Go.RowKit Go.Qz Go.Qz.RS Go.Qz.DM
set_option linter.unusedVariables false

def EccPost (n : Nat) (data : List Nat) (w : World) (e : Ending) (w' : World) : Prop :=
  ∃ B, e = .returned (.tuple #[.slice (some ⟨B, 0, none⟩) n n, .nilIface]) ∧ Arr w' 5 B (u8s (lfs n (gd n) data)) ∧ w.heap.size ≤ B ∧ Below w.heap.size w w'
/-- The register, the other way round: so far, from the top down to place k. -/
def er (n : Nat) (s t : List Nat) (k x : Nat) : Nat := if k ≤ x then nth t (n - 1 - x) else nth s (n - 1 - x)
theorem lg_val {x : Nat} (hx : x < 256) (h0 : x ≠ 0) : nth (RS.logs D 255) x < 255 ∧ ex D (nth (RS.logs D 255) x) = x := by
  have h := ex_lg six2 (show 0 < x by omega) (show x < D.size from hx)
  exact h
theorem tab_mul {a b : Nat} (ha : a < 256) (hb : b < 256) (ha0 : a ≠ 0) (hb0 : b ≠ 0) : ex D ((nth (RS.logs D 255) a + nth (RS.logs D 255) b) % 255) = mul D a b :=
  mul_tables six2 (show a < D.size from ha) (show b < D.size from hb) ha0 hb0
theorem run_neqIface : Try.prog.underlying 37 = Try.prog.underlying 37 := rfl

set_option maxRecDepth 100000 in
set_option maxHeartbeats 12800000 in
theorem dmEcc (data : List Nat) (t0 n : Nat) (ht0 : t0 < 16) (hn : n = nth facN t0) (hmin : ∀ t, t < t0 → nth facN t ≠ n) (hn2 : 2 ≤ n) (hn100 : n ≤ 100) (hd : ∀ j, nth data j < 256) (L : Nat) (hL : L = data.length) (hl : L ≤ 3000) (A : Option Addr) (c : Nat) (w : World) (h : Rd w A L (fun j => .int .u8 (nth data j : Nat))) :
    Calls Try.prog 23 #[.slice A L c, .int .i64 n] w (EccPost n data w) := by
  have HR := Lib.hid h
  have HD := Lib.hid hd
  have HL := Lib.hid hL
  have HNE := Lib.hid hn
  have HMIN := Lib.hid hmin
  clear h hd hL hn hmin
  go_enter Try.func23, Try.ntmps23
  go_wp2_with fail
  go_loopw [6, 7] (fun t i wr => ∃ q : Nat, q ≤ t0 ∧ i = .int .i64 q ∧ t = .int .i64 (-1) ∧ Hid (Below w.heap.size w wr)) (fun _ i _ => t0 - (intOf i).toNat)
  case atStart => exact ⟨0, Nat.zero_le _, rfl, rfl, Lib.hid (Below.refl _ _)⟩
  case round =>
    obtain ⟨q, hq, rfl, rfl, HB⟩ := hrel
    obtain ⟨wi, hwi⟩ : ∃ wi, wi = wr := ⟨_, rfl⟩
    rw [← hwi] at HB ⊢
    clear hwi
    have hq16 : (q : Int) < 16 := by omega
    have hq0 : (0 : Int) ≤ (q : Int) := by omega
    go_wp2_with fail
    refine (dmSets wi).mono ?_
    rintro e w1 ⟨b1, rfl, hb1, HS1⟩
    have HB1 := Lib.hid (HB.out.trans (hb1.mono HB.out.size))
    clear hb1 HS1
    go_wp2_with fail
    refine (dmSets w1).mono ?_
    rintro e w2 ⟨b2, rfl, hb2, HS2⟩
    have HB2 := Lib.hid (HB1.out.trans (hb2.mono HB1.out.size))
    have cs := HS2.out.cell? q
    rw [ints_atD (show q < facN.length by show q < 16; omega)] at cs
    clear hb2
    by_cases hne : q < t0
    · have hx := HMIN.out q hne
      obtain ⟨x, hxe⟩ : ∃ x, x = nth facN q := ⟨_, rfl⟩
      rw [← hxe] at cs hx
      have hxn : ((x : Int) == (n : Int)) = false := by simp; omega
      clear hxe HS2
      go_wp2_with fail
      go_roundw
      case rel => exact ⟨q + 1, by omega, by go_num, rfl, HB2⟩
      case measure => simp [intOf]; omega
    · obtain rfl : q = t0 := by omega
      rw [← HNE.out] at cs
      clear HS2
      go_wp2_with fail
      refine (dmFactors w2).mono ?_
      rintro e w3 ⟨fb, p, rfl, hb3, hfb, HP⟩
      have HB3 := Lib.hid (HB2.out.trans (hb3.mono HB2.out.size))
      obtain ⟨cf, hG, hpg⟩ := HP.out q (by omega)
      rw [← HNE.out] at cf hG
      obtain ⟨G, hGe⟩ : ∃ G, G = p q := ⟨_, rfl⟩
      rw [← hGe] at cf hG
      have HG := Lib.hid hG
      clear hb3 HP hpg hGe hfb hG
      go_wp2_with fail
      refine (dmLogs w3).mono ?_
      rintro e w4 ⟨lb, ab, rfl, hb4, HLG, HAG, hlb, hab⟩
      have HB4 := Lib.hid (HB3.out.trans (hb4.mono HB3.out.size))
      have HG4 := Lib.hid (HG.out.below hb4 HG.out.lt)
      have hmk := fun W => run_make1 (P := Try.prog) 57 3 (.int .i64 0) 8 Try.underlying57 Try.infoIntD rfl (by decide) n (by omega) .i64 .i64 (n : Int) rfl W
      clear hb4 HG hlb hab
      go_wp2_with fail
      have hN := Arr.new w4 3 (List.replicate n (.int .i64 0))
      have hbN : Below w4.heap.size w4 (w4.alloc (.cells (zeros n (.int .i64 0)) 3)) := (Below.refl _ _).alloc (Nat.le_refl _) _
      obtain ⟨W5, hW5⟩ : ∃ W5, W5 = w4.alloc (.cells (zeros n (.int .i64 0)) 3) := ⟨_, rfl⟩
      have hN2 : Arr W5 3 w4.heap.size (List.replicate n (.int .i64 0)) := by rw [hW5]; exact hN
      rw [← hW5] at hbN ⊢
      have HG5 := Lib.hid (HG4.out.below hbN HG4.out.lt)
      have HLG5 := Lib.hid (HLG.out.below hbN HLG.out.lt)
      have HAG5 := Lib.hid (HAG.out.below hbN HAG.out.lt)
      have hGl := HG4.out.lt
      have hLl := HLG.out.lt
      have hAl := HAG.out.lt
      obtain ⟨EB, hEB⟩ : ∃ EB, EB = w4.heap.size := ⟨_, rfl⟩
      rw [← hEB] at hN2 hbN ⊢
      have hnG : G ≠ EB := by omega
      have hnL : lb ≠ EB := by omega
      have hnA : ab ≠ EB := by omega
      have HEBW : Hid (w.heap.size ≤ EB) := Lib.hid (by rw [hEB]; exact HB4.out.size)
      have HB5 : Hid (Below w.heap.size w W5) := Lib.hid (HB4.out.trans (hbN.mono (by rw [hEB]; exact HB4.out.size)))
      have HE5 : Hid (Arr W5 3 EB (ints (rowF n (er n (lfs n (gd n) (data.take 0)) [] n)))) := Lib.hid (by
        rw [rowF_congr (g := fun _ => 0) (fun j hj => by
          unfold er
          rw [if_neg (by omega), List.take_zero]
          show nth (List.replicate n 0) _ = 0
          rw [nth_replicate]; split <;> rfl), ints_zeros]
        exact hN2)
      have HGN : Hid (∀ k, k < n → (ints (facOf n))[k]? = some (.int .i64 (nth (gd n) (n - k) : Nat))) := Lib.hid (fun k hk => by rw [ints_atD (by rw [facOf_length]; exact hk), facOf_nth hk])
      have HLN : Hid (∀ x, x < 256 → (ints (RS.logs D 255))[x]? = some (.int .i64 (nth (RS.logs D 255) x : Nat))) := Lib.hid (fun x hx => ints_atD (by rw [RS.logs_length]; exact hx))
      have hn1 : ∃ n1, n1 + 1 = n := ⟨n - 1, by omega⟩
      obtain ⟨n1, hn1⟩ := hn1
      have hn1i : (n : Int) - 1 = (n1 : Int) := by omega
      have hn10 : (0 : Int) ≤ (n1 : Int) := by omega
      have hn1n : (n1 : Int) < (n : Int) := by omega
      have hwn1 : IntKind.i64.wrap (n1 : Int) = (n1 : Int) := by rw [IntKind.wrap_i64]; omega
      clear hN hbN hW5 hN2 hEB hGl hLl hAl HG4 HLG HAG HB4 hmk
      go_loopw [12] (fun i wr => ∃ u : Nat, u ≤ L ∧ i = .int .i64 u ∧ Hid (Arr wr 3 EB (ints (rowF n (er n (lfs n (gd n) (data.take u)) [] n)))) ∧ Hid (Mod (· = EB) W5 wr)) (fun i _ => L - (intOf i).toNat)
      case atStart => exact ⟨0, Nat.zero_le _, rfl, HE5, Lib.hid (Mod.refl _)⟩
      case round =>
        obtain ⟨u, hu, rfl, HE, HM⟩ := hrel
        clear HE5
        obtain ⟨wj, hwj⟩ : ∃ wj, wj = wr := ⟨_, rfl⟩
        rw [← hwj] at HE HM ⊢
        clear hwj
        by_cases hlt : u < L
        · have hui : (u : Int) < (L : Int) := by omega
          have hu0 : (0 : Int) ≤ (u : Int) := by omega
          have hbj : Below w.heap.size w wj := HB5.out.trans (HM.out.below HB5.out.size (fun j hj => by rw [hj]; exact HEBW.out))
          obtain ⟨bb, bo, rfl, hbb, hbc⟩ := (HR.out.below hbj) (by omega)
          have cd := hbc u hlt
          dsimp only at cd
          have hdl := HD.out u
          have hSl : ∀ j, nth (lfs n (gd n) (data.take u)) j < 256 := lfs_lt (fun j => by
            by_cases hj : j < u
            · rw [show nth (data.take u) j = nth data j by unfold nth; rw [List.getD_eq_getElem?_getD, List.getD_eq_getElem?_getD, List.getElem?_take, if_pos hj]]
              exact HD.out j
            · rw [nth_past (by simp; omega)]; omega)
          have hnext := lfs_take (n := n) (g := gd n) (data := data) (k := u) (by rw [← HL.out]; exact hlt)
          have hpast : nth (lfs n (gd n) (data.take u)) n = 0 := nth_past (by rw [lfs_length]; omega)
          obtain ⟨d, hde⟩ : ∃ d, d = nth data u := ⟨_, rfl⟩
          obtain ⟨S, hS⟩ : ∃ S, S = lfs n (gd n) (data.take u) := ⟨_, rfl⟩
          obtain ⟨S', hS'⟩ : ∃ S', S' = lfs n (gd n) (data.take (u + 1)) := ⟨_, rfl⟩
          rw [← hde] at cd hdl
          rw [← hS, ← hS', ← hde] at hnext
          rw [← hS] at hpast HE
          have hSl2 : ∀ j, nth S j < 256 := fun j => by rw [hS]; exact hSl j
          have ce := HE.out.cell? n1
          rw [ints_rowF (by omega)] at ce
          have e1 : er n S [] n n1 = nth S 0 := by unfold er; rw [if_neg (by omega), show n - 1 - n1 = 0 by omega]
          rw [e1] at ce
          obtain ⟨s0, hs0⟩ : ∃ s0, s0 = nth S 0 := ⟨_, rfl⟩
          have hs0l : s0 < 256 := by rw [hs0]; exact hSl2 0
          rw [← hs0] at ce
          have hxor := i64_xor s0 d (by omega) (by omega)
          obtain ⟨m, hm⟩ : ∃ m, m = s0 ^^^ d := ⟨_, rfl⟩
          have hml : m < 256 := by rw [hm]; exact xor_256 hs0l hdl
          rw [← hm] at hxor
          have hwd : IntKind.i64.wrap (d : Int) = (d : Int) := by rw [IntKind.wrap_i64]; omega
          -- the next register
          have hSn : ∀ j, j < n → nth S' j = nth S (j + 1) ^^^ mul D m (nth (gd n) (j + 1)) := fun j hj => by
            rw [hnext, lf_nth hj, ← hs0, ← hm]
          have HSN := Lib.hid hSn
          have HSL := Lib.hid hSl2
          have HSE := Lib.hid hS'
          have HPA := Lib.hid hpast
          have HEW : Hid (Arr wj.drew 3 EB (ints (rowF n (er n S S' n)))) := Lib.hid (by
            rw [rowF_congr (g := er n S [] n) (fun j hj => by unfold er; rw [if_neg (by omega), if_neg (by omega)])]
            exact HE.out)
          have HMW : Hid (Mod (· = EB) W5 wj.drew) := Lib.hid HM.out.drew
          clear hbj hbb hbc hde hS hS' hnext hpast hSl hSl2 hs0 hm hSn e1 HE HM
          go_upto_region 15 with (fail)
          go_still_tail 11, (by kernel_rfl)
          repeat still_step
          try refine wpStill_nil ?_
          change wpList _ _ _ _ _ wj.drew
          obtain ⟨W6, hW6⟩ : ∃ W6, W6 = wj.drew := ⟨_, rfl⟩
          rw [← hW6] at HEW HMW ⊢
          clear hW6 cd ce
          go_wp2_with fail
          go_loopw [14] (fun i wr => ∃ k : Nat, k ≤ n1 ∧ i = .int .i64 k ∧ Hid (Arr wr 3 EB (ints (rowF n (er n S S' (k + 1))))) ∧ Hid (Mod (· = EB) W5 wr)) (fun i _ => (intOf i).toNat)
          case atStart => exact ⟨n1, Nat.le_refl _, rfl, Lib.hid (by rw [hn1]; exact HEW.out), HMW⟩
          case round =>
            obtain ⟨k, hk, rfl, HE, HM⟩ := hrel
            clear HEW HMW
            obtain ⟨wk, hwk⟩ : ∃ wk, wk = wr := ⟨_, rfl⟩
            rw [← hwk] at HE HM ⊢
            clear hwk
            have hkn : k < n := by omega
            have hkni : (k : Int) < (n : Int) := by omega
            have hk0 : (0 : Int) ≤ (k : Int) := by omega
            have cg := (HG5.out.mod HM.out hnG).cell? k
            rw [HGN.out k hkn] at cg
            have hpl := gd_lt n (n - k)
            have hSk := HSN.out (n - 1 - k) (by omega)
            rw [show n - 1 - k + 1 = n - k by omega] at hSk
            obtain ⟨p, hp⟩ : ∃ p, p = nth (gd n) (n - k) := ⟨_, rfl⟩
            rw [← hp] at cg hpl hSk
            have hol := HSL.out (n - k)
            have hov : k = 0 → nth S (n - k) = 0 := fun h9 => by rw [h9, Nat.sub_zero]; exact HPA.out
            obtain ⟨o, ho⟩ : ∃ o, o = nth S (n - k) := ⟨_, rfl⟩
            rw [← ho] at hol hSk hov
            obtain ⟨v, hv⟩ : ∃ v, v = nth S' (n - 1 - k) := ⟨_, rfl⟩
            rw [← hv] at hSk
            have hset : ∀ W : World, Arr W 3 EB (ints (rowF n (er n S S' (k + 1)))) → Arr (W.setCell ⟨EB, k, none⟩ (.int .i64 v)) 3 EB (ints (rowF n (er n S S' k))) := fun W hW => by
              rw [← ints_setF (f := er n S S' (k + 1)) (g := er n S S' k) (i := k) (v := v) hkn (by unfold er; rw [if_pos (Nat.le_refl _), hv]) (fun j _ hj => by
                unfold er
                by_cases h9 : k + 1 ≤ j
                · rw [if_pos h9, if_pos (by omega)]
                · rw [if_neg h9, if_neg (by omega)])]
              exact hW.set_ k _
            have HSET := Lib.hid hset
            have cold := HE.out.cell? k
            rw [ints_rowF hkn] at cold
            obtain ⟨old, hold⟩ : ∃ old, old = er n S S' (k + 1) k := ⟨_, rfl⟩
            rw [← hold] at cold
            have hf := HE.out.free k
            have cl : ∀ x, x < 256 → wk.cell? ⟨lb, x, none⟩ = some (.int .i64 (nth (RS.logs D 255) x : Nat)) := fun x hx => by
              rw [(HLG5.out.mod HM.out hnL).cell?, HLN.out x hx]
            have ca : ∀ x, x < 255 → wk.cell? ⟨ab, x, none⟩ = some (.int .i64 (ex D x : Nat)) := fun x hx => by
              rw [(HAG5.out.mod HM.out hnA).cell?, ints_rowF hx]
            by_cases hkp : 0 < k
            · have hkp1 : (0 : Int) < (k : Int) := by omega
              obtain ⟨k1, hk1⟩ : ∃ k1, k1 + 1 = k := ⟨k - 1, by omega⟩
              have hk1i : (k : Int) - 1 = (k1 : Int) := by omega
              have hk10 : (0 : Int) ≤ (k1 : Int) := by omega
              have hk1n : (k1 : Int) < (n : Int) := by omega
              have hk1n2 : k1 < n := by omega
              have hwk1 : IntKind.i64.wrap (k1 : Int) = (k1 : Int) := by rw [IntKind.wrap_i64]; omega
              have co := HE.out.cell? k1
              rw [ints_rowF hk1n2] at co
              have e2 : er n S S' (k + 1) k1 = o := by unfold er; rw [if_neg (by omega), ho, show n - 1 - k1 = n - k by omega]
              rw [e2] at co
              have HK1 := Lib.hid hk1
              by_cases hz : m ≠ 0 ∧ p ≠ 0
              · obtain ⟨hm0, hp0⟩ := hz
                have hm1 : ((m : Int) == 0) = false := by simp; omega
                have hp1 : ((p : Int) == 0) = false := by simp; omega
                have hm2 : ((m : Int) != 0) = true := by simp; omega
                have hp2 : ((p : Int) != 0) = true := by simp; omega
                obtain ⟨hlm, _⟩ := lg_val hml hm0
                obtain ⟨hlp, _⟩ := lg_val hpl hp0
                have htm := tab_mul hml hpl hm0 hp0
                have cm := cl m hml
                have cp := cl p hpl
                obtain ⟨lm, hlme⟩ : ∃ x, x = nth (RS.logs D 255) m := ⟨_, rfl⟩
                obtain ⟨lp, hlpe⟩ : ∃ x, x = nth (RS.logs D 255) p := ⟨_, rfl⟩
                rw [← hlme] at hlm cm htm
                rw [← hlpe] at hlp cp htm
                obtain ⟨sm, hsm⟩ : ∃ x, x = lm + lp := ⟨_, rfl⟩
                have hsmi : (lm : Int) + (lp : Int) = (sm : Int) := by omega
                have hwsm : IntKind.i64.wrap (sm : Int) = (sm : Int) := by rw [IntKind.wrap_i64]; omega
                obtain ⟨r, hr⟩ : ∃ x, x = sm % 255 := ⟨_, rfl⟩
                have hrl : r < 255 := by omega
                have er1 : (sm : Int).tmod 255 = (r : Int) := by rw [Int.tmod_eq_emod_of_nonneg (by omega)]; omega
                have er2 : (sm : Int) % 255 = (r : Int) := by omega
                have hwr : IntKind.i64.wrap (r : Int) = (r : Int) := by rw [IntKind.wrap_i64]; omega
                have hr0 : (0 : Int) ≤ (r : Int) := by omega
                have hr255 : (r : Int) < 255 := by omega
                have cr := ca r hrl
                rw [← hsm, ← hr] at htm
                rw [htm] at cr
                obtain ⟨al, hal⟩ : ∃ x, x = mul D m p := ⟨_, rfl⟩
                have hall : al < 256 := by rw [hal]; exact mul_256 hml p
                rw [← hal] at cr hSk
                have hxo := i64_xor o al (by omega) (by omega)
                rw [← hSk] at hxo
                have hm0i : (0 : Int) ≤ (m : Int) := by omega
                have hm256 : (m : Int) < 256 := by omega
                have hp0i : (0 : Int) ≤ (p : Int) := by omega
                have hp256 : (p : Int) < 256 := by omega
                have HE7 : Hid (Arr (wk.drew.setCell ⟨EB, k, none⟩ (.int .i64 v)) 3 EB (ints (rowF n (er n S S' (k1 + 1))))) := Lib.hid (by rw [hk1]; exact HSET.out wk.drew HE.out)
                have HM7 : Hid (Mod (· = EB) W5 (wk.drew.setCell ⟨EB, k, none⟩ (.int .i64 v))) := Lib.hid (HM.out.drew.setCell (p := ⟨EB, k, none⟩) (.inl rfl) _)
                have cold2 : wk.drew.cell? ⟨EB, k, none⟩ = some (.int .i64 old) := cold
                have hf2 : wk.drew.frozen? ⟨EB, k, none⟩ = false := hf
                clear hp ho hv hset hold cl ca e2 hlme hlpe hsm hr htm hal hov hSk hk1 HE HM
                go_upto_region 20 with (fail)
                go_still_tail 25, (by kernel_rfl)
                repeat still_step
                try refine wpStill_nil ?_
                change wpList _ _ _ _ _ wk.drew
                obtain ⟨W7, hW7⟩ : ∃ W7, W7 = wk.drew := ⟨_, rfl⟩
                rw [← hW7] at cold2 hf2 HE7 HM7 ⊢
                clear hW7 cg cold co cm cp cr hf
                go_wp2_with fail
                go_roundw
                case rel => exact ⟨k1, by omega, by go_num, HE7, HM7⟩
                case measure => have := HK1.out; simp [intOf]; omega
              · have hvo : v = o := by
                  rw [hSk]
                  rcases (show m = 0 ∨ p = 0 by omega) with h9 | h9
                  · rw [h9, zero_mul six2, Nat.xor_zero]
                  · rw [h9, mul_0 hml, Nat.xor_zero]
                rw [← hvo] at co
                by_cases hm0 : m = 0
                · have hm2 : ((m : Int) != 0) = false := by simp; omega
                  clear hvo hm0
                  have HE7 : Hid (Arr (wk.setCell ⟨EB, k, none⟩ (.int .i64 v)) 3 EB (ints (rowF n (er n S S' (k1 + 1))))) := Lib.hid (by rw [hk1]; exact HSET.out wk HE.out)
                  have HM7 : Hid (Mod (· = EB) W5 (wk.setCell ⟨EB, k, none⟩ (.int .i64 v))) := Lib.hid (HM.out.setCell (p := ⟨EB, k, none⟩) (.inl rfl) _)
                  clear hp ho hv hset hold cl ca e2 hov hSk hk1 HE HM hz
                  go_wp2_with fail
                  go_roundw
                  case rel => exact ⟨k1, by omega, by go_num, HE7, HM7⟩
                  case measure => have := HK1.out; simp [intOf]; omega
                · have hp0 : p = 0 := by omega
                  have hm2 : ((m : Int) != 0) = true := by simp; omega
                  have hp2 : ((p : Int) != 0) = false := by simp; omega
                  clear hvo hm0 hp0
                  have HE7 : Hid (Arr (wk.setCell ⟨EB, k, none⟩ (.int .i64 v)) 3 EB (ints (rowF n (er n S S' (k1 + 1))))) := Lib.hid (by rw [hk1]; exact HSET.out wk HE.out)
                  have HM7 : Hid (Mod (· = EB) W5 (wk.setCell ⟨EB, k, none⟩ (.int .i64 v))) := Lib.hid (HM.out.setCell (p := ⟨EB, k, none⟩) (.inl rfl) _)
                  clear hp ho hv hset hold cl ca e2 hov hSk hk1 HE HM hz
                  go_wp2_with fail
                  go_roundw
                  case rel => exact ⟨k1, by omega, by go_num, HE7, HM7⟩
                  case measure => have := HK1.out; simp [intOf]; omega
            · obtain rfl : k = 0 := by omega
              have h00 : ((0 : Int) < ((0 : Nat) : Int)) = False := by simp
              have hn0i : (0 : Int) < (n : Int) := by omega
              have hn0n : 0 < n := by omega
              have ho0 := hov rfl
              rw [ho0, Nat.zero_xor] at hSk
              have hfin : ∀ W : World, Hid (Arr W 3 EB (ints (rowF n (er n S S' 0)))) → Hid (Arr W 3 EB (ints (rowF n (er n (lfs n (gd n) (data.take (u + 1))) [] n)))) := fun W hW => Lib.hid (by
                rw [← HSE.out, rowF_congr (g := er n S S' 0) (fun j hj => by unfold er; rw [if_neg (by omega), if_pos (by omega)])]
                exact hW.out)
              have HFIN := Lib.hid hfin
              by_cases hz : m ≠ 0 ∧ p ≠ 0
              · obtain ⟨hm0, hp0⟩ := hz
                have hm2 : ((m : Int) != 0) = true := by simp; omega
                have hp2 : ((p : Int) != 0) = true := by simp; omega
                obtain ⟨hlm, _⟩ := lg_val hml hm0
                obtain ⟨hlp, _⟩ := lg_val hpl hp0
                have htm := tab_mul hml hpl hm0 hp0
                have cm := cl m hml
                have cp := cl p hpl
                obtain ⟨lm, hlme⟩ : ∃ x, x = nth (RS.logs D 255) m := ⟨_, rfl⟩
                obtain ⟨lp, hlpe⟩ : ∃ x, x = nth (RS.logs D 255) p := ⟨_, rfl⟩
                rw [← hlme] at hlm cm htm
                rw [← hlpe] at hlp cp htm
                obtain ⟨sm, hsm⟩ : ∃ x, x = lm + lp := ⟨_, rfl⟩
                have hsmi : (lm : Int) + (lp : Int) = (sm : Int) := by omega
                have hwsm : IntKind.i64.wrap (sm : Int) = (sm : Int) := by rw [IntKind.wrap_i64]; omega
                obtain ⟨r, hr⟩ : ∃ x, x = sm % 255 := ⟨_, rfl⟩
                have hrl : r < 255 := by omega
                have er1 : (sm : Int).tmod 255 = (r : Int) := by rw [Int.tmod_eq_emod_of_nonneg (by omega)]; omega
                have er2 : (sm : Int) % 255 = (r : Int) := by omega
                have hwr : IntKind.i64.wrap (r : Int) = (r : Int) := by rw [IntKind.wrap_i64]; omega
                have hr0 : (0 : Int) ≤ (r : Int) := by omega
                have hr255 : (r : Int) < 255 := by omega
                have cr := ca r hrl
                rw [← hsm, ← hr] at htm
                rw [htm, ← hSk] at cr
                have hm0i : (0 : Int) ≤ (m : Int) := by omega
                have hm256 : (m : Int) < 256 := by omega
                have hp0i : (0 : Int) ≤ (p : Int) := by omega
                have hp256 : (p : Int) < 256 := by omega
                have HE7 := HFIN.out (wk.drew.setCell ⟨EB, 0, none⟩ (.int .i64 v)) (Lib.hid (HSET.out wk.drew HE.out))
                have HM7 : Hid (Mod (· = EB) W5 (wk.drew.setCell ⟨EB, 0, none⟩ (.int .i64 v))) := Lib.hid (HM.out.drew.setCell (p := ⟨EB, 0, none⟩) (.inl rfl) _)
                have cold2 : wk.drew.cell? ⟨EB, 0, none⟩ = some (.int .i64 old) := cold
                have hf2 : wk.drew.frozen? ⟨EB, 0, none⟩ = false := hf
                clear hp ho hv hset hold cl ca hlme hlpe hsm hr htm hov hSk ho0 hfin HE HM hkp
                go_upto_region 23 with (fail)
                go_still_tail 17, (by kernel_rfl)
                repeat still_step
                try refine wpStill_nil ?_
                change wpList _ _ _ _ _ wk.drew
                obtain ⟨W7, hW7⟩ : ∃ W7, W7 = wk.drew := ⟨_, rfl⟩
                rw [← hW7] at cold2 hf2 HE7 HM7 ⊢
                clear hW7 cg cold cm cp cr hf
                go_wp2_with fail
                go_roundw
                case rel => exact ⟨u + 1, by omega, by go_num, HE7, HM7⟩
                case measure => simp [intOf]; omega
              · have hv0 : v = 0 := by
                  rw [hSk]
                  rcases (show m = 0 ∨ p = 0 by omega) with h9 | h9
                  · rw [h9, zero_mul six2]
                  · rw [h9, mul_0 hml]
                have HE7 := HFIN.out (wk.setCell ⟨EB, 0, none⟩ (.int .i64 0)) (Lib.hid (by have h9 := HSET.out wk HE.out; rw [hv0] at h9; exact h9))
                have HM7 : Hid (Mod (· = EB) W5 (wk.setCell ⟨EB, 0, none⟩ (.int .i64 0))) := Lib.hid (HM.out.setCell (p := ⟨EB, 0, none⟩) (.inl rfl) _)
                by_cases hm0 : m = 0
                · have hm2 : ((m : Int) != 0) = false := by simp; omega
                  clear hp ho hv hset hold cl ca hov hSk ho0 hfin HE HM hkp hz hv0 hm0
                  go_wp2_with fail
                  go_roundw
                  case rel => exact ⟨u + 1, by omega, by go_num, HE7, HM7⟩
                  case measure => simp [intOf]; omega
                · have hp0 : p = 0 := by omega
                  have hm2 : ((m : Int) != 0) = true := by simp; omega
                  have hp2 : ((p : Int) != 0) = false := by simp; omega
                  clear hp ho hv hset hold cl ca hov hSk ho0 hfin HE HM hkp hz hv0 hm0 hp0
                  go_wp2_with fail
                  go_roundw
                  case rel => exact ⟨u + 1, by omega, by go_num, HE7, HM7⟩
                  case measure => simp [intOf]; omega
        · obtain rfl : u = L := by omega
          have hui : ((u : Int) < (u : Int)) = False := by simp
          have hmk := fun W => run_make1 (P := Try.prog) 22 5 (.int .u8 0) 1 Try.underlying22 Try.infoU8D rfl (by decide) n (by omega) .i64 .i64 (n : Int) rfl W
          go_wp2_with fail
          have hO := Arr.new wj 5 (List.replicate n (.int .u8 0))
          have hbO : Below wj.heap.size wj (wj.alloc (.cells (zeros n (.int .u8 0)) 5)) := (Below.refl _ _).alloc (Nat.le_refl _) _
          obtain ⟨W8, hW8⟩ : ∃ W8, W8 = wj.alloc (.cells (zeros n (.int .u8 0)) 5) := ⟨_, rfl⟩
          have hO2 : Arr W8 5 wj.heap.size (List.replicate n (.int .u8 0)) := by rw [hW8]; exact hO
          rw [← hW8] at hbO ⊢
          have HE8 := Lib.hid (HE.out.below hbO HE.out.lt)
          have hEl := HE.out.lt
          have HBJ : Hid (Below w.heap.size w wj) := Lib.hid (HB5.out.trans (HM.out.below HB5.out.size (fun j hj => by rw [hj]; exact HEBW.out)))
          obtain ⟨OB, hOB⟩ : ∃ OB, OB = wj.heap.size := ⟨_, rfl⟩
          rw [← hOB] at hO2 hbO ⊢
          have hne9 : EB ≠ OB := by omega
          have HOBW : Hid (w.heap.size ≤ OB) := Lib.hid (by rw [hOB]; exact HBJ.out.size)
          have HB8 : Hid (Below w.heap.size w W8) := Lib.hid (HBJ.out.trans (hbO.mono (by rw [hOB]; exact HBJ.out.size)))
          rw [HL.out, List.take_length] at HE8
          have hSb : ∀ j, nth (lfs n (gd n) data) j < 256 := lfs_lt HD.out
          obtain ⟨S, hS⟩ : ∃ S, S = lfs n (gd n) data := ⟨_, rfl⟩
          have hSl : S.length = n := by rw [hS, lfs_length]
          rw [← hS] at HE8 hSb
          have HSB := Lib.hid hSb
          have HSE := Lib.hid (And.intro hS hSl)
          have HO2 : Hid (Arr W8 5 OB (u8s (rowF n (fun j => if j < 0 then nth S j else 0)))) := Lib.hid (by
            rw [rowF_congr (g := fun _ => 0) (fun j _ => by simp), u8s_zeros]; exact hO2)
          clear hO hbO hW8 hO2 hOB hEl HE HM hmk hS hSl hSb
          go_loopw [16] (fun i wr => ∃ v : Nat, v ≤ n ∧ i = .int .i64 v ∧ Hid (Arr wr 5 OB (u8s (rowF n (fun j => if j < v then nth S j else 0)))) ∧ Hid (Mod (· = OB) W8 wr)) (fun i _ => n - (intOf i).toNat)
          case atStart => exact ⟨0, Nat.zero_le _, rfl, HO2, Lib.hid (Mod.refl _)⟩
          case round =>
            obtain ⟨v, hv, rfl, HO, HM⟩ := hrel
            clear HO2
            obtain ⟨wm, hwm⟩ : ∃ wm, wm = wr := ⟨_, rfl⟩
            rw [← hwm] at HO HM ⊢
            clear hwm
            by_cases hlt4 : v < n
            · have hvi : (v : Int) < (n : Int) := by omega
              have hv0 : (0 : Int) ≤ (v : Int) := by omega
              obtain ⟨a1, ha1⟩ : ∃ a1, a1 = n - v := ⟨_, rfl⟩
              have ha1i : (n : Int) - (v : Int) = (a1 : Int) := by omega
              obtain ⟨a2, ha2⟩ : ∃ a2, a2 = a1 - 1 := ⟨_, rfl⟩
              have ha2i : (a1 : Int) - 1 = (a2 : Int) := by omega
              have ha2n : (a2 : Int) < (n : Int) := by omega
              have ha2n2 : a2 < n := by omega
              have ha20 : (0 : Int) ≤ (a2 : Int) := by omega
              have cn := (HE8.out.mod HM.out hne9).cell? a2
              rw [ints_rowF ha2n2] at cn
              have e9 : er n S [] n a2 = nth S v := by unfold er; rw [if_neg (by omega), show n - 1 - a2 = v by omega]
              rw [e9] at cn
              have hsl := HSB.out v
              obtain ⟨sv, hsv⟩ : ∃ sv, sv = nth S v := ⟨_, rfl⟩
              rw [← hsv] at cn hsl
              have hw8 : IntKind.u8.wrap (sv : Int) = (sv : Int) := by rw [IntKind.wrap_u8]; omega
              have co := HO.out.cell? v
              rw [u8s_rowF hlt4, if_neg (by omega)] at co
              have hf := HO.out.free v
              have HO7 : Hid (Arr (wm.setCell ⟨OB, v, none⟩ (.int .u8 sv)) 5 OB (u8s (rowF n (fun j => if j < v + 1 then nth S j else 0)))) := Lib.hid (by
                rw [← u8s_setF (f := fun j => if j < v then nth S j else 0) (g := fun j => if j < v + 1 then nth S j else 0) (i := v) (v := sv) hlt4 (by rw [if_pos (by omega), hsv]) (fun j _ hj => by
                  by_cases h9 : j < v
                  · rw [if_pos h9, if_pos (by omega)]
                  · rw [if_neg h9, if_neg (by omega)])]
                exact HO.out.set_ v _)
              have HM7 : Hid (Mod (· = OB) W8 (wm.setCell ⟨OB, v, none⟩ (.int .u8 sv))) := Lib.hid (HM.out.setCell (p := ⟨OB, v, none⟩) (.inl rfl) _)
              clear hsv ha1 ha2 e9 HO HM
              go_wp2_with fail
              go_roundw
              case rel => exact ⟨v + 1, by omega, by go_num, HO7, HM7⟩
              case measure => simp [intOf]; omega
            · obtain rfl : v = n := by omega
              have hvi : ((v : Int) < (v : Int)) = False := by simp
              have HO8 : Hid (Arr wm 5 OB (u8s (lfs v (gd v) data))) := Lib.hid (by
                rw [← HSE.out.1, ← rowF_list S, HSE.out.2, rowF_congr (g := fun j => if j < v then nth S j else 0) (fun j hj => by rw [if_pos hj])]
                exact HO.out)
              have HB9 : Hid (Below w.heap.size w wm) := Lib.hid (HB8.out.trans (HM.out.below HB8.out.size (fun j hj => by rw [hj]; exact HOBW.out)))
              clear HO HM
              go_wp2_with fail
              go_ret2
              exact ⟨OB, rfl, HO8.out, HOBW.out, HB9.out⟩
end Go.Proofs.Ytjpnkdpgdmmkkaa
