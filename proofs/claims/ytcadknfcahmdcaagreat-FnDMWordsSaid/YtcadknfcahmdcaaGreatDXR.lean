/-
  Pads behind words, equal rows, DMWords, walked. No condition beyond the bounds that each theorem states.
-/
import Derived.Test.YtcadknfcahmdcaaGreatDXQ
namespace Go.Proofs.YtcadknfcahmdcaaGreat
open Go.RowKit Go.Qz Go.Qz.DF
open Go.Qz.DV hiding val run part
set_option linter.unusedVariables false

theorem pads_push {m k : Nat} (h : m ≤ k) : pads m (k + 1) = pads m k ++ [if k = m then 129 else padAt k] := by
  by_cases hk : k = m
  · subst hk
    rw [if_pos rfl, pads_self, pads_one]; rfl
  · rw [if_neg hk, pads_next (by omega)]
theorem range_bys (l : List Nat) : (List.range l.length).map (fun j => Value.int .u8 (nth l j : Nat)) = bys l := by
  apply List.ext_getElem
  · simp [bys]
  · intro i h1 h2
    simp [bys] at h2 ⊢
    rw [nth_eq h2]
/-- Words and the pads behind them. -/
def PadPost (l : List Nat) (n : Nat) (w : World) (e : Ending) (w' : World) : Prop := ∃ A c, e = .returned (.slice A n c) ∧ Hid (w'.ownsRow w.heap.size 5 1 (.slice A n c) n (bys (l ++ pads l.length n))) ∧ Below w.heap.size w w'
set_option maxRecDepth 100000 in
set_option maxHeartbeats 3200000 in
theorem padded (l : List Nat) (m c n : Nat) (hm : m = l.length) (hmn : m ≤ n) (hn : n < 10000) (A : Option Addr) (w : World) (h : Rd w A m (fun j => .int .u8 (nth l j : Nat))) :
    Calls Tryz.prog 11 #[.slice A m c, .int .i64 n] w (PadPost l n w) := by
  have HR := Lib.hid h
  have HM := Lib.hid hm
  clear h hm
  go_enter Tryz.func11, Tryz.ntmps11
  have hb0 : ∀ W, (Instr.buildSlice 24 0 #[]).run Tryz.prog W = .ok (.slice (some ⟨W.heap.size, 0, none⟩) 0 0) (W.alloc (.cells #[] 5)) := fun W => by kernel_rfl
  have HB0 : Hid (Below w.heap.size w (w.alloc (.cells #[] 5))) := Lib.hid ((Below.refl _ _).alloc (Nat.le_refl _) _)
  have HO0 : Hid ((w.alloc (.cells #[] 5)).ownsRow w.heap.size 5 1 (.slice (some ⟨w.heap.size, 0, none⟩) 0 0) 0 []) := Lib.hid (own_make0 w 5 (.int .u8 0) 0 w.heap.size (Nat.le_refl _) (Nat.zero_le _))
  have HR0 := Lib.hid (HR.out.alloc (.cells #[] 5))
  go_wp2_with (at_builtin; refine wpList_copyTo _ _ 24 w.heap.size 5 (.int .u8 0) 1 _ 0 [] A m _ _ rfl rfl rfl rfl Tryz.underlying24 Tryz.infoBy rfl (fun _ _ => rfl) (by decide) HO0.out HR0.out (by omega) HB0.out.size ?_)
  intro v1 w1 hown1 hg1 hb1
  obtain ⟨A1, c1, rfl, _, _, _⟩ := Rd.of_own hown1
  have HO1 : Hid (w1.ownsRow w.heap.size 5 1 (.slice A1 m c1) m (bys (l ++ pads m m))) := Lib.hid (by
    have h := hown1
    have e : (List.range m).map (fun j => Value.int .u8 (nth l j : Nat)) = bys l := by rw [HM.out]; exact range_bys l
    rw [e] at h
    rw [pads_self, List.append_nil]; exact h)
  have HB1 : Hid (Below w.heap.size w w1) := Lib.hid (HB0.out.trans hb1)
  clear hown1 hg1 hb1 HR0 HO0 HB0 HR hb0
  go_wp2_with fail
  go_loopw [5] (fun v wr => ∃ (k : Nat) (A2 : Option Addr) (c2 : Nat), m ≤ k ∧ k ≤ n ∧ v = .slice A2 k c2 ∧ Hid (wr.ownsRow w.heap.size 5 1 v k (bys (l ++ pads m k))) ∧ Hid (Below w.heap.size w wr)) (fun v _ => n - (match v with | .slice _ k _ => k | _ => 0))
  case atStart => exact ⟨m, A1, c1, Nat.le_refl _, hmn, rfl, HO1, HB1⟩
  case round =>
    obtain ⟨k, A2, c2, hk1, hk2, rfl, HO, HBE⟩ := hrel
    clear HO1 HB1
    obtain ⟨wi, hwi⟩ : ∃ wi, wi = wr := ⟨_, rfl⟩
    rw [← hwi] at HO HBE ⊢
    clear hwi
    by_cases hlt : k < n
    · have hlt1 : (k : Int) < (n : Int) := by omega
      have hpush : ∀ (y : Nat) (v' : Value) (w2 : World), y = (if k = m then 129 else padAt k) → w2.ownsRow w.heap.size 5 1 v' (k + 1) (bys (l ++ pads m k) ++ [.int .u8 (y : Nat)]) → Below w.heap.size wi w2 → ∃ (A3 : Option Addr) (c3 : Nat), v' = .slice A3 (k + 1) c3 ∧ Hid (w2.ownsRow w.heap.size 5 1 v' (k + 1) (bys (l ++ pads m (k + 1)))) ∧ Hid (Below w.heap.size w w2) := fun y v' w2 hy ho hb => by
        obtain ⟨A3, c3, rfl, _, _, _⟩ := Rd.of_own ho
        refine ⟨A3, c3, rfl, Lib.hid ?_, Lib.hid (HBE.out.trans hb)⟩
        rw [pads_push hk1, ← hy, ← List.append_assoc, bys_append]
        exact ho
      have HP := Lib.hid hpush
      clear hpush
      by_cases hkm : k = m
      · have hkm1 : ((m : Int) < (k : Int)) = False := by simp; omega
        have HKM : Hid (129 = (if k = m then 129 else padAt k)) := Lib.hid (by rw [if_pos hkm])
        clear hkm
        go_wp2_with (at_builtin; refine wpList_push _ _ 24 w.heap.size 5 (.int .u8 0) 1 _ k _ (.int .u8 ((129 : Nat) : Int)) rfl rfl rfl rfl Tryz.underlying24 Tryz.infoBy rfl rfl (by decide) HO.out (by omega) HBE.out.size ?_)
        intro v' w2 hown2 hg2 hb2
        obtain ⟨A3, c3, rfl, h5, h6⟩ := HP.out 129 v' w2 HKM.out hown2 hb2
        clear hown2 hg2 hb2
        go_wp2_with fail
        go_roundw
        case rel => exact ⟨k + 1, A3, c3, by omega, by omega, rfl, h5, h6⟩
        case measure => simp; omega
      · have hkm1 : (m : Int) < (k : Int) := by omega
        have hpa : (if k = m then 129 else padAt k) = padAt k := if_neg hkm
        obtain ⟨p, hp⟩ : ∃ x, x = k + 1 := ⟨_, rfl⟩
        obtain ⟨a, ha⟩ : ∃ x, x = 149 * p := ⟨_, rfl⟩
        obtain ⟨b, hb⟩ : ∃ x, x = a % 253 := ⟨_, rfl⟩
        obtain ⟨c', hc'⟩ : ∃ x, x = b + 1 := ⟨_, rfl⟩
        obtain ⟨d, hd⟩ : ∃ x, x = 129 + c' := ⟨_, rfl⟩
        have hpd : padAt k = if d ≤ 254 then d else d - 254 := by unfold padAt; rw [← hp, ← ha, ← hb, ← hc', ← hd]
        have e1 : (k : Int) + 1 = (p : Int) := by omega
        have e2 : (149 : Int) * (p : Int) = (a : Int) := by omega
        have e3 : (a : Int) % 253 = (b : Int) := by omega
        have e3' : (a : Int).tmod 253 = (b : Int) := by rw [Int.tmod_eq_emod_of_nonneg (by omega)]; omega
        have e4 : (b : Int) + 1 = (c' : Int) := by omega
        have e5 : (129 : Int) + (c' : Int) = (d : Int) := by omega
        have hab : a < 2000000 := by omega
        have hbb : b < 253 := by omega
        have hdb : d ≤ 382 := by omega
        have HPP : Hid (p = k + 1) := Lib.hid hp
        have HPA := Lib.hid hpa
        have HPD := Lib.hid hpd
        clear hp ha hb hc' hd hkm hpa hpd
        by_cases h254 : 254 < d
        · have h255 : (254 : Int) < (d : Int) := by omega
          obtain ⟨f, hf⟩ : ∃ x, x = d - 254 := ⟨_, rfl⟩
          have e6 : (d : Int) - 254 = (f : Int) := by omega
          have hfb : f < 256 := by omega
          have HF : Hid (f = (if k = m then 129 else padAt k)) := Lib.hid (by rw [HPA.out, HPD.out, if_neg (by omega), hf])
          clear hf
          go_wp2_with (at_builtin; refine wpList_push _ _ 24 w.heap.size 5 (.int .u8 0) 1 _ k _ (.int .u8 (f : Nat)) rfl rfl rfl rfl Tryz.underlying24 Tryz.infoBy rfl rfl (by decide) HO.out (by omega) HBE.out.size ?_)
          intro v' w2 hown2 hg2 hb2
          obtain ⟨A3, c3, rfl, h5, h6⟩ := HP.out f v' w2 HF.out hown2 hb2
          clear hown2 hg2 hb2
          go_wp2_with fail
          go_roundw
          case rel => exact ⟨k + 1, A3, c3, by omega, by omega, rfl, h5, h6⟩
          case measure => simp; omega
        · have h255 : ((254 : Int) < (d : Int)) = False := by simp; omega
          have hfb : d < 256 := by omega
          have HF : Hid (d = (if k = m then 129 else padAt k)) := Lib.hid (by rw [HPA.out, HPD.out, if_pos (by omega)])
          go_wp2_with (at_builtin; refine wpList_push _ _ 24 w.heap.size 5 (.int .u8 0) 1 _ k _ (.int .u8 (d : Nat)) rfl rfl rfl rfl Tryz.underlying24 Tryz.infoBy rfl rfl (by decide) HO.out (by omega) HBE.out.size ?_)
          intro v' w2 hown2 hg2 hb2
          obtain ⟨A3, c3, rfl, h5, h6⟩ := HP.out d v' w2 HF.out hown2 hb2
          clear hown2 hg2 hb2
          go_wp2_with fail
          go_roundw
          case rel => exact ⟨k + 1, A3, c3, by omega, by omega, rfl, h5, h6⟩
          case measure => simp; omega
    · obtain rfl : k = n := by omega
      have hlt1 : ((k : Int) < (k : Int)) = False := by simp
      clear hlt
      go_wp2_with fail
      go_ret
      exact ⟨A2, c2, rfl, by rw [← HM.out]; exact HO, HBE.out⟩
set_option maxRecDepth 100000 in
set_option maxHeartbeats 1600000 in
theorem dmSame (f : Nat → Nat) (n : Nat) (hn : n < 100000) (A B : Option Addr) (c d : Nat) (w : World) (hA : Rd w A n (fun j => .int .u8 (f j : Nat))) (hB : Rd w B n (fun j => .int .u8 (f j : Nat))) :
    Calls Tryz.prog 10 #[.slice A n c, .slice B n d] w fun e w' => e = .returned (.bool true) ∧ Below w.heap.size w w' := by
  have HA := Lib.hid hA
  have HB := Lib.hid hB
  clear hA hB
  go_enter Tryz.func10, Tryz.ntmps10
  go_wp2_with fail
  go_loopg [13] n (fun k i wr => ∃ q : Nat, k = n - q ∧ q ≤ n ∧ i = .int .i64 q ∧ ∃ m, wr = w.drewN m)
  case atStart => exact ⟨0, rfl, Nat.zero_le _, rfl, 0, rfl⟩
  case round =>
    obtain ⟨q, hgk, hq, hu, m, hwr⟩ := hrel
    subst hu
    rw [hwr]
    have HGK := Lib.hid hgk
    clear hwr hgk
    by_cases hlt : q < n
    · have hlt1 : (q : Int) < (n : Int) := by omega
      have hq0 : (0 : Int) ≤ (q : Int) := by omega
      obtain ⟨b, off, hA, _, cA⟩ := HA.out (by omega)
      obtain ⟨b2, off2, hB, _, cB⟩ := HB.out (by omega)
      subst hA hB
      have ca : ∀ k, (w.drewN k).cell? ⟨b, off + q, none⟩ = some (.int .u8 (f q : Nat)) := fun _ => cA q hlt
      have cb : ∀ k, (w.drewN k).cell? ⟨b2, off2 + q, none⟩ = some (.int .u8 (f q : Nat)) := fun _ => cB q hlt
      obtain ⟨x, hx⟩ : ∃ x, x = f q := ⟨_, rfl⟩
      rw [← hx] at ca cb
      obtain ⟨q1, hq1⟩ : ∃ q1, q1 = q + 1 := ⟨_, rfl⟩
      have w1 : IntKind.i64.wrap ((q : Int) + 1) = (q1 : Int) := by rw [IntKind.wrap_i64]; omega
      have HQ1 : Hid (q1 = q + 1 ∧ q < n) := Lib.hid ⟨hq1, hlt⟩
      have xne : ((x : Int) != (x : Int)) = false := by simp
      clear hx hq1 hlt
      go_wp2_with fail
      go_quiet (fail)
      go_wp2_with fail
      go_roundg (n - q1)
      case measure => have := HQ1.out; have := HGK.out; omega
      case rel => exact ⟨q1, rfl, by have := HQ1.out; omega, rfl, m + nq, rfl⟩
    · obtain rfl : q = n := by omega
      have hlt1 : ((q : Int) < (q : Int)) = False := by simp
      clear hlt
      go_wp2_with fail
      go_ret
      exact ⟨rfl, (Same.drewN w m).below⟩
/-- What DMWords gives. -/
def WordsPost (s : ByteArray) (sh : Nat) (w : World) (e : Ending) (w' : World) : Prop :=
  ∃ (A : Option Addr) (c : Nat) (mac ws : List Nat) (p0 T n : Nat), e = .returned (.tuple #[.slice A n c, .bool true]) ∧ n = (ws ++ pads ws.length (capFor sh ws.length)).length ∧ n ≤ c ∧ c ≤ maxLen ∧ Hid (Rd w' A n (fun j => .int .u8 (nth (ws ++ pads ws.length (capFor sh ws.length)) j : Nat))) ∧ Hid (Below w.heap.size w w') ∧ Hid (MacOf (sb s) mac p0 T) ∧ Hid (MainA sh T p0 (sb s) mac ws T)
theorem held_ok {s : ByteArray} {sh : Nat} (h : Held s sh) {mac : List Nat} {p0 T : Nat} (hm : MacOf (sb s) mac p0 T) :
    ((∃ i, p0 ≤ i ∧ i < T ∧ isS (nth (sb s) i) = true) → ∀ i, p0 ≤ i → i < T → isX (nth (sb s) i) = true) ∧ ((∀ i, p0 ≤ i → i < T → isE (nth (sb s) i) = true) ∨ ∀ j, p0 ≤ j → Runs8 (fun i => nth (sb s) (j + i))) := by
  have hT : T ≤ (sb s).length := by rcases hm with ⟨_, _, h, _⟩ | ⟨_, _, h, _⟩ | ⟨_, _, h, _⟩ <;> omega
  have hlen : (DV.part (sb s) p0 T).length = T - p0 := part_len hT
  have hat : ∀ i, i < T - p0 → nth (DV.part (sb s) p0 T) i = nth (sb s) (p0 + i) := fun i hi => by
    unfold DV.part nth
    rw [List.getD_eq_getElem?_getD, List.getD_eq_getElem?_getD, List.getElem?_drop, List.getElem?_take, if_pos (by omega)]
  have hat2 : ∀ i, p0 ≤ i → i < T → nth (DV.part (sb s) p0 T) (i - p0) = nth (sb s) i := fun i h1 h2 => by
    rw [hat _ (by omega), show p0 + (i - p0) = i by omega]
  obtain ⟨h1, h2⟩ := h.clr mac p0 T hm
  rw [hlen] at h1 h2
  refine ⟨fun ⟨i, a, b, c⟩ k ha hb => ?_, ?_⟩
  · rcases h2 with h2 | h2
    · have := h2 (i - p0) (by omega)
      rw [hat2 i a b, c] at this; cases this
    · have := h2 (k - p0) (by omega)
      rwa [hat2 k ha hb] at this
  · rcases h1 with h1 | h1
    · refine .inl fun i a b => ?_
      have := h1 (i - p0) (by omega)
      rwa [hat2 i a b] at this
    · refine .inr fun j hj k n hn => ?_
      have hnT : isE (nth (sb s) T) = false := by
        rcases hm.tr with h | ⟨_, h30, _⟩
        · rw [show nth (sb s) T = 0 by simp [nth, h]]; decide
        · rw [h30]; decide
      rcases Nat.lt_or_ge T (j + k + n) with g | g
      · rcases Nat.lt_or_ge T (j + k) with g2 | g2
        · rcases Nat.eq_zero_or_pos n with rfl | hn0
          · omega
          · exfalso
            rcases hm.tr with h | ⟨h, h30, h4⟩
            · have := hn 0 hn0
              simp only [Nat.add_zero] at this
              rw [show nth (sb s) (j + k) = 0 by unfold nth; rw [List.getD_eq_getElem?_getD, List.getElem?_eq_none (by omega)]; rfl] at this
              revert this; decide
            · have := hn 0 hn0
              simp only [Nat.add_zero] at this
              rcases (show j + k = T + 1 ∨ T + 2 ≤ j + k by omega) with e | e
              · rw [e, h4] at this; revert this; decide
              · rw [show nth (sb s) (j + k) = 0 by unfold nth; rw [List.getD_eq_getElem?_getD, List.getElem?_eq_none (by omega)]; rfl] at this
                revert this; decide
        · exfalso
          have := hn (T - (j + k)) (by omega)
          simp only at this
          rw [show j + (k + (T - (j + k))) = T by omega, hnT] at this
          cases this
      · refine h1 (j + k - p0) n (fun i hi => ?_) (by omega)
        have := hn i hi
        rw [hat _ (by omega), show p0 + (j + k - p0 + i) = j + (k + i) by omega]
        exact this
set_option maxRecDepth 100000 in
set_option maxHeartbeats 1600000 in
theorem dmWords (s : ByteArray) (sh : Nat) (hsh : sh ≤ 2) (h : Held s sh) (w : World) : Calls Tryz.prog 6 #[.string s, .int .i64 sh] w (WordsPost s sh w) := by
  have HH := Lib.hid (ehl s sh h.pos hsh h.plain h.room (fun mac p0 T hm => (held_ok h hm).1) (fun mac p0 T hm => (held_ok h hm).2) w)
  have HSB : Hid (∀ (mac ws : List Nat) (p0 T : Nat), MacOf (sb s) mac p0 T → MainA sh T p0 (sb s) mac ws T → ws.length ≤ 1304 ∧ capFor sh ws.length ≤ 1558 ∧ ws.length ≤ capFor sh ws.length) := Lib.hid (fun mac ws p0 T hm hA => by
    have hT : T ≤ s.size := by rw [← sb_len]; rcases hm with ⟨_, _, h, _⟩ | ⟨_, _, h, _⟩ | ⟨_, _, h, _⟩ <;> omega
    have h1 := hA.2.2.2
    have h2 := h.room
    have hc : capMost sh ≤ 1304 := by unfold capMost; split <;> omega
    have h3 := cap_le_most sh
    have h4 : ws.length ≤ mostOf sh := by split at h1 <;> omega
    have h5 := capFor_le hsh h4
    have h6 := (capFor_mem hsh h4).2
    have h7 : mostOf sh ≤ 1558 := by unfold mostOf; split <;> omega
    split at h1 <;> omega)
  clear h hsh
  go_enter Tryz.func6, Tryz.ntmps6
  go_wp2_with fail
  refine HH.out.mono ?_
  rintro e w1 ⟨u, mac, ws, p0, T, base, rfl, HO, HB, HM, HA⟩
  obtain ⟨L, hL⟩ : ∃ L, L = ws ++ pads ws.length (capFor sh ws.length) := ⟨_, rfl⟩
  rw [← hL] at HO
  obtain ⟨n, hn⟩ : ∃ n, n = L.length := ⟨_, rfl⟩
  have hsb := HSB.out mac ws p0 T HM.out HA.out
  have hnb : n ≤ 100000 := by rw [hn, hL, List.length_append, pads_len hsb.2.2]; omega
  rw [← hn] at HO
  obtain ⟨g, off, cap, hu, _, hg, _⟩ := HO.out.block
  subst hu
  have hcl := HO.out.cells
  have HRD : Hid (Rd w1 (some ⟨g, off, none⟩) n (fun j => .int .u8 (nth L j : Nat))) := Lib.hid (fun _ => ⟨g, off, rfl, hg, fun j hj => hcl j _ (bys_at (by omega))⟩)
  have HON : Hid (w1.ownsRow w1.heap.size 5 1 (.slice none 0 0) 0 []) := Lib.hid (World.ownsRow_nil _ _ _ _)
  have HL := Lib.hid hL
  have HNE := Lib.hid hn
  clear hcl hsb hn hg HO HH HSB hL
  go_wp2_with (at_builtin; refine wpList_copyTo _ _ 24 w1.heap.size 5 (.int .u8 0) 1 _ 0 [] (some ⟨g, off, none⟩) n _ _ rfl rfl rfl rfl Tryz.underlying24 Tryz.infoBy rfl (fun _ _ => rfl) (by decide) HON.out HRD.out (by omega) (Nat.le_refl _) ?_)
  intro v2 w2 hown2 hg2 hb2
  obtain ⟨A2, c2, rfl, hc2, hc3, hrd⟩ := Rd.of_own hown2
  have HCC : Hid (n ≤ c2 ∧ c2 ≤ maxLen) := Lib.hid ⟨by omega, hc3⟩
  clear hc2 hc3
  have HR2 : Hid (Rd w2 A2 n (fun j => .int .u8 (nth L j : Nat))) := Lib.hid (fun h0 => by
    obtain ⟨b, o, e1, hb, hc⟩ := hrd h0
    refine ⟨b, o, e1, hb, fun j hj => ?_⟩
    rw [hc j hj]
    simp [List.getD_eq_getElem?_getD, hj])
  have HB2 : Hid (Below w.heap.size w w2) := Lib.hid (HB.out.trans (hb2.mono HB.out.size))
  clear hown2 hg2 hb2 hrd HON HRD
  go_wp2_with fail
  refine bodyPost_ret (v := .tuple #[.slice A2 n c2, .bool true]) (by simp [results, Tryz.results6, go_sem]) rfl ⟨A2, c2, mac, ws, p0, T, n, rfl, by rw [HNE.out, HL.out], HCC.out.1, HCC.out.2, by rw [← HL.out]; exact HR2, HB2, HM, HA⟩
end Go.Proofs.YtcadknfcahmdcaaGreat
