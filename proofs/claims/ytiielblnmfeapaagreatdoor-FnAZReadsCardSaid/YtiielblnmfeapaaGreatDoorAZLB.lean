/-
  The reference's AZLay, walked: a grid in which each bit of the layers lies at its place. No condition beyond the bounds that each theorem states.
-/
import Derived.Test.YtiielblnmfeapaaGreatDoorAZLA
import Derived.Test.YtiielblnmfeapaaGreatDoorAZK
import Derived.Deep.DeepCutAuto
namespace Go.Proofs.YtiielblnmfeapaaGreatDoor
open Go.RowKit Go.Qz Go.Qz.AZ
set_option linter.unusedVariables false

theorem bools_atL {l : List Bool} {j : Nat} (h : j < l.length) : (l.map Value.bool)[j]? = some (.bool (nthB l j)) := by
  rw [List.getElem?_map, List.getElem?_eq_getElem h, nthB_eq h]; rfl
/-- What lies in memory while the bits are laid: so many are. -/
structure LayS (c : Bool) (l : Nat) (bits : List Bool) (w0 wr : World) (P G E pw bb bo cap : Nat) (t : Nat) : Prop where
  gr : ∃ g : Nat → Nat → Bool, Grid wr 35 4 G (whole c l) (whole c l) (whole c l) (fun y x => .bool (g x y)) ∧ Holds c l (nthB bits) g t
  wt : Wr wr E pw (.slice (some ⟨bb, bo, none⟩) bits.length cap) bits ⟨#[]⟩ 0
  pl : Arr wr 3 P (rowV (pv (plc c l)) (sd c l))
  be : Below w0.heap.size w0 wr
  rd : ∀ j, j < bits.length → wr.cell? ⟨bb, bo + j, none⟩ = some (.bool (nthB bits j))
  ge : G + whole c l < E
  gp : P < G
  gw : w0.heap.size ≤ P
  bE : E ≤ bb
  pE : E ≤ pw
theorem LayS.drewN {c : Bool} {l : Nat} {bits : List Bool} {w0 wr : World} {P G E pw bb bo cap t : Nat} (h : LayS c l bits w0 wr P G E pw bb bo cap t) (n : Nat) : LayS c l bits w0 (wr.drewN n) P G E pw bb bo cap t := by
  obtain ⟨⟨g, h1, h1'⟩, h2, h3, h4, h5, h6, h7, h8, h9, h10⟩ := h
  have hm : Mod (fun _ => False) wr (wr.drewN n) := (Mod.refl wr).drewN n
  exact ⟨⟨g, h1.mod hm (fun _ _ _ h => h), h1'⟩, h2.mod hm (fun h => h) (fun _ _ h => h), h3.mod hm (fun h => h), below_drewN h4 n, fun j hj => h5 j hj, h6, h7, h8, h9, h10⟩
theorem LayS.step {c : Bool} {l : Nat} {bits : List Bool} {w0 wr : World} {P G E pw bb bo cap i k j n t x y : Nat} (h : LayS c l bits w0 wr P G E pw bb bo cap t) (hi : i < l) (hk : k < 4) (hj : j < lng c l i) (hn : n < 2) (ht : t = at_ c l i k j n)
    (hx : x = plc c l (mx c l i k j n)) (hy : y = plc c l (my c l i k j n)) : LayS c l bits w0 (wr.setCell ⟨G + 1 + y, x, none⟩ (.bool (nthB bits t))) P G E pw bb bo cap (t + 1) := by
  obtain ⟨⟨g, h1, h1'⟩, h2, h3, h4, h5, h6, h7, h8, h9, h10⟩ := h
  have hm := m_lt (c := c) hi hk hj hn
  have hyl : y < whole c l := by rw [hy]; exact plc_lt hm.2
  have hmo := Mod.set1 wr (G + 1 + y) x (.bool (nthB bits t))
  subst ht
  refine ⟨⟨upd g x y (nthB bits (at_ c l i k j n)), ?_, ?_⟩, h2.mod hmo (by omega) (fun q hq => ?_), h3.mod hmo (by omega), h4.setCell (p := ⟨G + 1 + y, x, none⟩) (by show w0.heap.size ≤ G + 1 + y; omega) _, fun q hq => ?_, h6, h7, h8, h9, h10⟩
  · refine h1.set_ y x hyl _ (fun r' c' hr hc => ?_)
    unfold upd
    by_cases e : c' = x ∧ r' = y
    · rw [if_pos e, if_pos ⟨e.2, e.1⟩]
    · rw [if_neg e, if_neg (fun h => e ⟨h.2, h.1⟩)]
  · rw [hx, hy]; exact Holds.step hi hk hj hn h1'
  · simp [Value.ownBlock] at hq; omega
  · have := h5 q hq
    refine Eq.trans (World.cell?_setCell_other _ _ _ _ ?_) this
    intro e; injection e with e1 e2 e3; omega

theorem LayS.head {c : Bool} {l : Nat} {bits : List Bool} {w0 wr : World} {P G E pw bb bo cap t : Nat} (h : LayS c l bits w0 wr P G E pw bb bo cap t) (y : Nat) (hy : y < whole c l) : wr.cell? ⟨G, y, none⟩ = some (.slice (some ⟨G + 1 + y, 0, none⟩) (whole c l) (whole c l)) := by
  obtain ⟨g, h1, _⟩ := h.gr
  exact h1.head y hy hy
theorem LayS.old {c : Bool} {l : Nat} {bits : List Bool} {w0 wr : World} {P G E pw bb bo cap t : Nat} (h : LayS c l bits w0 wr P G E pw bb bo cap t) (y x : Nat) (hy : y < whole c l) (hx : x < whole c l) : ∃ b : Bool, wr.cell? ⟨G + 1 + y, x, none⟩ = some (.bool b) := by
  obtain ⟨g, h1, _⟩ := h.gr
  exact ⟨_, h1.cell y x hy hx⟩
theorem LayS.free {c : Bool} {l : Nat} {bits : List Bool} {w0 wr : World} {P G E pw bb bo cap t : Nat} (h : LayS c l bits w0 wr P G E pw bb bo cap t) (y x : Nat) (hy : y < whole c l) : wr.frozen? ⟨G + 1 + y, x, none⟩ = false := by
  obtain ⟨g, h1, _⟩ := h.gr
  exact (h1.row y hy).free x
theorem LayS.place {c : Bool} {l : Nat} {bits : List Bool} {w0 wr : World} {P G E pw bb bo cap t : Nat} (h : LayS c l bits w0 wr P G E pw bb bo cap t) (x : Nat) (hx : x < sd c l) : wr.cell? ⟨P, x, none⟩ = some (.int .i64 (plc c l x : Nat)) := by
  rw [h.pl.cell?, rowV_get _ _ _ hx]; rfl
theorem Tryz.infoBoolLB : (Tryz.prog.info? 4).map (fun i => (i.zero, i.size, i.bytes)) = some (some (.bool false), 1, 1) := by kernel_rfl
theorem bits_off (c : Bool) (l : Nat) : bitsIn c l = off c l l := (off_l c l).symm
theorem sd_le (c : Bool) (l : Nat) (hl : l ≤ 32) : sd c l ≤ 142 := by unfold sd; split <;> omega
theorem whole_le (c : Bool) (l : Nat) (hl : l ≤ 32) : whole c l ≤ 160 ∧ 1 ≤ whole c l := by
  have h := sd_le c l hl
  unfold whole
  cases c
  · have hs : sd false l = 14 + 4 * l := rfl
    simp only [Bool.false_eq_true, if_false]; omega
  · have hs : sd true l = 11 + 4 * l := rfl
    simp only [if_true]; omega
def LayPost (c : Bool) (l : Nat) (bits : List Bool) (w : World) (e : Ending) (w' : World) : Prop := ∃ (G : Nat) (g : Nat → Nat → Bool), e = .returned (.slice (some ⟨G, 0, none⟩) (whole c l) (whole c l)) ∧
  Hid (Grid w' 35 4 G (whole c l) (whole c l) (whole c l) (fun y x => .bool (g x y))) ∧ Hid (Holds c l (nthB bits) g (off c l l)) ∧ Hid (Below w.heap.size w w')

set_option maxRecDepth 100000 in
set_option maxHeartbeats 12800000 in
theorem azLay (cm : Bool) (l : Nat) (hl1 : 1 ≤ l) (hl : l ≤ 32) (ws : List Nat) (hx : ∀ j, nth ws j < 100000) (hwn : ws.length = bitsIn cm l / wOf l) (A : Option Addr) (cp : Nat) (w : World) (h : Rd w A ws.length (fun j => .int .i64 (nth ws j : Nat))) :
    Calls Tryz.prog 7 #[.slice A ws.length cp, .bool cm, .int .i64 l] w (LayPost cm l (List.replicate (bitsIn cm l % wOf l) false ++ ws.flatMap (bitsOf · (wOf l))) w) := by
  have HPL := Lib.hid (azPlaces cm l hl1 hl w)
  have hWb := whole_le cm l hl
  have hSb := sd_le cm l hl
  have HBI := Lib.hid (fun W => biLight (whole cm l) (whole cm l) (by omega) (by omega) (by omega) (by omega) W)
  have HAW := Lib.hid (fun W => azWidth l (by omega) W)
  have HAB := Lib.hid (fun W => azBits cm l hl W)
  have hcs := wOf_cases l
  have hbi := bitsIn_le cm l hl
  have hbl : (List.replicate (bitsIn cm l % wOf l) false ++ ws.flatMap (bitsOf · (wOf l))).length = off cm l l := by
    rw [List.length_append, List.length_replicate, flat_len, hwn, ← bits_off]
    exact Nat.mod_add_div _ _
  have hoff0 : 0 < off cm l l := by
    rw [← bits_off]; unfold bitsIn
    exact Nat.mul_pos (by split <;> omega) (by omega)
  have hoffb : off cm l l ≤ 624 * 32 := by rw [← bits_off]; exact hbi
  obtain ⟨bi, hbi2⟩ : ∃ bi, bi = bitsIn cm l := ⟨_, rfl⟩
  obtain ⟨wv, hwv⟩ : ∃ wv, wv = wOf l := ⟨_, rfl⟩
  rw [← hbi2] at hbi HAB hwn hbl ⊢
  rw [← hwv] at HAW hcs hwn hbl ⊢
  have hcs2 : Hid (wv = 6 ∨ wv = 8 ∨ wv = 10 ∨ wv = 12) := Lib.hid hcs
  have hw12 : wv ≤ 12 := by omega
  have hw0 : ¬ (wv : Int) = 0 := by omega
  have hw00 : ¬ wv = 0 := by omega
  obtain ⟨r, hr⟩ : ∃ r, r = bi % wv := ⟨_, rfl⟩
  have hrl : r < 12 := by rw [hr]; have := Nat.mod_lt bi (show 0 < wv by omega); omega
  have er : (bi : Int).tmod (wv : Int) = (r : Int) := by rw [Int.tmod_eq_emod_of_nonneg (by omega), hr]; simp
  have er2 := fun W => rem_runK (bi : Int) (wv : Int) (r : Int) hw0 er W
  rw [← hr] at hbl ⊢
  have hmk := fun W => run_make1 (P := Tryz.prog) 35 4 (.bool false) 1 Tryz.underlying35 Tryz.infoBoolLB rfl (by decide) r (by omega) .i64 .i64 (r : Int) rfl W
  obtain ⟨bits, hbits⟩ : ∃ bits, bits = List.replicate r false ++ ws.flatMap (bitsOf · wv) := ⟨_, rfl⟩
  rw [← hbits] at hbl ⊢
  have HBI2 := Lib.hid hbits
  have HR := Lib.hid h
  have HX := Lib.hid hx
  have hnb : ws.length < 5000 := by
    rw [hwn]
    have : bi / wv ≤ bi / 6 := Nat.div_le_div_left (by omega) (by omega)
    omega
  obtain ⟨n, hn⟩ : ∃ n, n = ws.length := ⟨_, rfl⟩
  have HN := Lib.hid hn
  have HBL := Lib.hid hbl
  have HOB := Lib.hid (And.intro hoff0 hoffb)
  rw [← hn] at HR hnb ⊢
  obtain ⟨Wh, hWh⟩ : ∃ Wh, Wh = whole cm l := ⟨_, rfl⟩
  obtain ⟨S, hS⟩ : ∃ S, S = sd cm l := ⟨_, rfl⟩
  unfold PlcPost at HPL
  have HWE := Lib.hid (And.intro hWh hS)
  rw [← hWh] at HBI HPL hWb
  rw [← hS] at HPL hSb
  unfold LayPost
  rw [← hWh]
  clear hbi2 hwv hcs hr h hx hn hwn hbl hbits hoff0 hoffb hWh hS
  go_enter Tryz.func7, Tryz.ntmps7
  go_wp2_with fail
  refine HPL.out.mono ?_
  rintro e w1 ⟨P, rfl, HA1, HB1, hP⟩
  have HPw := Lib.hid hP
  clear hP
  go_wp2_with fail
  refine (HBI.out w1).mono ?_
  rintro e w2 ⟨G, rfl, HG2, HB2, hG⟩
  have HA2 : Hid (Arr w2 3 P (rowV (pv (plc cm l)) S)) := Lib.hid (HA1.out.below HB2.out HA1.out.lt)
  have HGP : Hid (P < G) := Lib.hid (by have := HA1.out.lt; omega)
  have HB22 : Hid (Below w.heap.size w w2) := Lib.hid (HB1.out.trans (HB2.out.mono HB1.out.size))
  have HGE : Hid (G + Wh < w2.heap.size) := Lib.hid (by
    have := (HG2.out.row (Wh - 1) (by omega)).lt
    omega)
  clear hG HA1 HB1 HB2
  go_wp2_with fail
  refine (HAW.out _).mono ?_
  rintro e w3 ⟨rfl, rfl⟩
  go_wp2_with fail
  refine (HAB.out _).mono ?_
  rintro e w3 ⟨rfl, rfl⟩
  go_wp2_with fail
  have hO := World.ownsRow_lit (e := 4) (size := 1) w2 (zeros r (.bool false)) r (Nat.le_refl w2.heap.size) (by unfold maxLen; omega) (by simp [zeros])
  obtain ⟨W1, hW1⟩ : ∃ W1, W1 = w2.alloc (.cells (zeros r (.bool false)) 4) := ⟨_, rfl⟩
  have hB1 : Below w2.heap.size w2 W1 := by rw [hW1]; exact (Below.refl _ _).alloc (Nat.le_refl _) _
  have hs1 : W1.heap.size = w2.heap.size + 1 := by rw [hW1]; simp
  rw [← hW1] at hO ⊢
  clear hW1 hmk er er2
  obtain ⟨E, hE⟩ : ∃ E, E = w2.heap.size := ⟨_, rfl⟩
  rw [← hE] at hO hB1 hs1 HGE ⊢
  obtain ⟨pw, hpw1⟩ : ∃ pw, pw = E + 1 := ⟨_, rfl⟩
  have hpw : pw = W1.heap.size := by omega
  rw [← hpw1]
  have hWr : Wr (W1.alloc (.cells #[.slice (some ⟨E, 0, none⟩) r r, .string ⟨#[]⟩, .int .i64 0] 61)) E pw (.slice (some ⟨E, 0, none⟩) r r) (List.replicate r false) ⟨#[]⟩ 0 := by
    refine ⟨by rw [hpw]; exact Arr.new _ _ _, ?_⟩
    have h5 := own_below hO ((Below.refl W1.heap.size W1).alloc (Nat.le_refl _) (.cells #[.slice (some ⟨E, 0, none⟩) r r, .string ⟨#[]⟩, .int .i64 0] 61))
    simpa [zeros] using h5
  have hB2 : Below E w2 (W1.alloc (.cells #[.slice (some ⟨E, 0, none⟩) r r, .string ⟨#[]⟩, .int .i64 0] 61)) := hB1.alloc (by omega) _
  have hpE : E ≤ pw := by omega
  obtain ⟨W2, hW2⟩ : ∃ W2, W2 = W1.alloc (.cells #[.slice (some ⟨E, 0, none⟩) r r, .string ⟨#[]⟩, .int .i64 0] 61) := ⟨_, rfl⟩
  rw [← hW2] at hWr hB2 ⊢
  have HWR := Lib.hid hWr
  have HB2 := Lib.hid hB2
  have HE := Lib.hid hE
  clear hWr hB2 hW2 hpw hpw1 hO hB1 hs1 hE
  go_loopw [14] (fun i wr => ∃ (k : Nat) (v : Value), k ≤ n ∧ i = .int .i64 k ∧ Hid (Wr wr E pw v (List.replicate r false ++ (ws.take k).flatMap (bitsOf · wv)) ⟨#[]⟩ 0) ∧ Hid (Below E w2 wr)) (fun i _ => n - (intOf i).toNat)
  case atStart => exact ⟨0, _, Nat.zero_le _, rfl, Lib.hid (by simpa using HWR.out), HB2⟩
  case round =>
    obtain ⟨k, v, hk, rfl, HW, HB⟩ := hrel
    clear HWR HB2
    obtain ⟨wi, hwi⟩ : ∃ wi, wi = wr := ⟨_, rfl⟩
    rw [← hwi] at HW HB ⊢
    clear hwi
    by_cases hlt : k < n
    · have hk1 : (k : Int) < (n : Int) := by omega
      have hk0 : (0 : Int) ≤ (k : Int) := by omega
      obtain ⟨bb, bo, rfl, hbb, hbc⟩ := ((HR.out.below HB22.out).below (by rw [← HE.out]; exact HB.out) : Rd wi A n _) (by omega)
      have hcell := hbc k hlt
      dsimp only at hcell
      have hxb := HX.out k
      have HTK := Lib.hid (take_nthK (l := ws) (k := k) (by rw [← HN.out]; exact hlt))
      obtain ⟨x, hxx⟩ : ∃ x, x = nth ws k := ⟨_, rfl⟩
      rw [← hxx] at hcell hxb HTK
      have hfl : (List.replicate r false ++ (ws.take k).flatMap (bitsOf · wv)).length < 10000000 := by
        rw [List.length_append, flat_len, List.length_replicate, List.length_take]
        have : wv * min k ws.length ≤ 12 * 5000 := Nat.mul_le_mul hw12 (by rw [← HN.out]; omega)
        omega
      have hEi : E ≤ wi.heap.size := by have := HW.out.ar.lt; omega
      have HPUT := Lib.hid (put E pw v _ ⟨#[]⟩ 0 x wv hxb hw12 hfl wi hEi HW.out)
      clear hxx hfl hbc hbb
      go_wp2_with fail
      refine HPUT.out.mono ?_
      rintro e w3 ⟨rfl, v3, hW3, hM3, hV3⟩
      have HW3 : Hid (Wr w3 E pw v3 (List.replicate r false ++ (ws.take (k + 1)).flatMap (bitsOf · wv)) ⟨#[]⟩ 0) := Lib.hid (by
        rw [HTK.out, List.flatMap_append, ← List.append_assoc]
        simpa using hW3)
      have HB3 : Hid (Below E w2 w3) := Lib.hid (wb_below HB.out HW.out hpE hEi hM3)
      clear hW3 hM3 hV3 HPUT HW HB
      go_wp2_with fail
      go_roundw
      case rel => exact ⟨k + 1, v3, by omega, by go_num, HW3, HB3⟩
      case measure => simp [intOf]; omega
    · obtain rfl : k = n := by omega
      have hkk : ((k : Int) < (k : Int)) = False := by simp
      have htk : ws.take k = ws := by rw [HN.out, List.take_length]
      rw [htk] at HW
      rw [← HBI2.out] at HW
      obtain ⟨A5, cap, rfl, _, _, hrd⟩ := Rd.of_own HW.out.own
      have hbl := HBL.out
      have hob := HOB.out
      obtain ⟨bb, bo, rfl, hbb, hrd2⟩ := hrd (by omega)
      have HL0 : Hid (LayS cm l bits w wi P G E pw bb bo cap 0) := Lib.hid ⟨⟨fun _ _ => false, by rw [← HWE.out.1]; exact HG2.out.below (by rw [← HE.out]; exact HB.out), Holds.zero _ _ _ _⟩, HW.out, by rw [← HWE.out.2]; exact HA2.out.below HB.out (by have := HA2.out.lt; have := HE.out; omega), HB22.out.trans (HB.out.mono (by have := HB22.out.size; have := HE.out; omega)),
        fun j hj => by
          have h9 := hrd2 j hj
          rw [show bo + j = bo + j from rfl, h9]
          dsimp only; rw [List.getD_eq_getElem?_getD, bools_atL hj]; rfl,
        by rw [← HWE.out.1]; exact HGE.out, HGP.out, HPw.out, (HW.out.own.lt bb rfl).1, hpE⟩
      clear hbl hob hrd hrd2 hbb htk HW HG2 HA2 HB HB22 hlt hkk HAB HAW HBI HPL HX HR HN
      go_wp2_with fail
      obtain ⟨W9, hW9⟩ : ∃ W9, W9 = wi := ⟨_, rfl⟩
      rw [← hW9] at HL0 ⊢
      clear hW9
      go_loopw [15, 16] (fun a v wr => ∃ (i' t : Nat), i' ≤ l ∧ v = .int .i64 i' ∧ a = .int .i64 t ∧ Hid (t = off cm l i') ∧ Hid (LayS cm l bits w wr P G E pw bb bo cap t)) (fun _ i _ => l - (intOf i).toNat)
      case atStart => exact ⟨0, 0, Nat.zero_le _, rfl, rfl, Lib.hid rfl, HL0⟩
      case round =>
        obtain ⟨i, t, hi, rfl, rfl, HT, HLS⟩ := hrel
        clear HL0
        obtain ⟨wo, hwo⟩ : ∃ wo, wo = wr := ⟨_, rfl⟩
        rw [← hwo] at HLS ⊢
        clear hwo
        by_cases hil : i < l
        · have hil1 : (i : Int) < (l : Int) := by omega
          have hLs := lng_sd (c := cm) hil
          obtain ⟨L, hL⟩ : ∃ L, L = lng cm l i := ⟨_, rfl⟩
          have hLu : L = 4 * (l - i) + (if cm then 9 else 12) := hL
          rw [← hL, ← HWE.out.2] at hLs
          have HLE := Lib.hid hL
          obtain ⟨li, hli⟩ : ∃ li, li = l - i := ⟨_, rfl⟩
          obtain ⟨l4, hl4⟩ : ∃ l4, l4 = 4 * li := ⟨_, rfl⟩
          have j1 : (l : Int) - (i : Int) = (li : Int) := by omega
          have j2 : (4 : Int) * (li : Int) = (l4 : Int) := by omega
          have hl4b : l4 ≤ 128 := by omega
          have HCM : Hid (L = l4 + (if cm then 9 else 12)) := Lib.hid (by rw [hl4, hli]; exact hLu)
          have HLS2 := Lib.hid hLs
          have hLb : L ≤ 140 := by omega
          clear hL hLu hli hl4 hLs
          go_upto_if 72 with (fail)
          go_cut [17] (fun a wx => wo = wx ∧ a = .int .i64 (L : Nat))
          case first =>
            cases cm with
            | true =>
              have j3 : (l4 : Int) + 9 = (L : Int) := by have := HCM.out; simp at this; omega
              go_wp2_with fail
              go_meet
              case rel => exact ⟨rfl, rfl⟩
            | false =>
              have j3 : (l4 : Int) + 12 = (L : Int) := by have := HCM.out; simp at this; omega
              go_wp2_with fail
              go_meet
              case rel => exact ⟨rfl, by rw [j3]⟩
          case rest =>
            obtain ⟨rfl, rfl⟩ := hcut
            have HT0 : Hid (t = off cm l i + 2 * (L * 0)) := Lib.hid (by have := HT.out; omega)
            clear HT HCM j1 j2 hl4b
            go_wp2_with fail
            go_loopw [15, 18] (fun a v wr => ∃ (k' t : Nat), k' ≤ 4 ∧ v = .int .i64 k' ∧ a = .int .i64 t ∧ Hid (t = off cm l i + 2 * (L * k')) ∧ Hid (LayS cm l bits w wr P G E pw bb bo cap t)) (fun _ v _ => 4 - (intOf v).toNat)
            case atStart => exact ⟨0, t, by omega, rfl, rfl, HT0, HLS⟩
            case round =>
              obtain ⟨k, t2, hk4, rfl, rfl, HT, HLSk⟩ := hrel
              clear HLS HT0
              obtain ⟨wk, hwk⟩ : ∃ wk, wk = wr := ⟨_, rfl⟩
              rw [← hwk] at HLSk ⊢
              clear hwk
              by_cases hkl : k < 4
              · have hkl1 : (k : Int) < 4 := by omega
                have HT1 : Hid (t2 = off cm l i + 2 * (L * k) + 2 * 0) := Lib.hid (by have := HT.out; omega)
                clear HT
                go_wp2_with fail
                go_loopw [15, 19] (fun a v wr => ∃ (j' t : Nat), j' ≤ L ∧ v = .int .i64 j' ∧ a = .int .i64 t ∧ Hid (t = off cm l i + 2 * (L * k) + 2 * j') ∧ Hid (LayS cm l bits w wr P G E pw bb bo cap t)) (fun _ v _ => L - (intOf v).toNat)
                case atStart => exact ⟨0, t2, by omega, rfl, rfl, HT1, HLSk⟩
                case round =>
                  obtain ⟨j, t3, hj, rfl, rfl, HT, HLSj⟩ := hrel
                  clear HLSk HT1
                  obtain ⟨wj, hwj⟩ : ∃ wj, wj = wr := ⟨_, rfl⟩
                  rw [← hwj] at HLSj ⊢
                  clear hwj
                  by_cases hjl : j < L
                  · have hjl1 : (j : Int) < (L : Int) := by omega
                    have HT1 : Hid (t3 = off cm l i + 2 * (L * k) + 2 * j + 0) := Lib.hid (by have := HT.out; omega)
                    clear HT
                    go_wp2_with fail
                    go_loopw [15, 20] (fun a v wr => ∃ (n' t : Nat), n' ≤ 2 ∧ v = .int .i64 n' ∧ a = .int .i64 t ∧ Hid (t = off cm l i + 2 * (L * k) + 2 * j + n') ∧ Hid (LayS cm l bits w wr P G E pw bb bo cap t)) (fun _ v _ => 2 - (intOf v).toNat)
                    case atStart => exact ⟨0, t3, by omega, rfl, rfl, HT1, HLSj⟩
                    case round =>
                      obtain ⟨n, t, hn, rfl, rfl, HT, HLS⟩ := hrel
                      clear HLSj HT1
                      obtain ⟨wn, hwn⟩ : ∃ wn, wn = wr := ⟨_, rfl⟩
                      rw [← hwn] at HLS ⊢
                      clear hwn
                      by_cases hn2 : n < 2
                      · have hn21 : (n : Int) < 2 := by omega
                        have hjl' : j < lng cm l i := by rw [← HLE.out]; exact hjl
                        have htN : t < bits.length := by
                          rw [HBL.out, HT.out, HLE.out]
                          have h1 := at_lt (c := cm) (l := l) (i := i) hkl hjl' hn2
                          have h2 := off_mono (c := cm) (l := l) hil
                          unfold at_ at h1
                          omega
                        have hLs := HLS2.out
                        obtain ⟨i2, hi2⟩ : ∃ x, x = 2 * i := ⟨_, rfl⟩
                        obtain ⟨s1, hs1⟩ : ∃ x, x = S - 1 := ⟨_, rfl⟩
                        obtain ⟨s2, hs2⟩ : ∃ x, x = s1 - i2 := ⟨_, rfl⟩
                        obtain ⟨q1, hq1⟩ : ∃ x, x = i2 + n := ⟨_, rfl⟩
                        obtain ⟨q2, hq2⟩ : ∃ x, x = s2 - n := ⟨_, rfl⟩
                        obtain ⟨q3, hq3⟩ : ∃ x, x = i2 + j := ⟨_, rfl⟩
                        obtain ⟨q4, hq4⟩ : ∃ x, x = s2 - j := ⟨_, rfl⟩
                        have j1 : (2 : Int) * (i : Int) = (i2 : Int) := by omega
                        have j2 : (S : Int) - 1 = (s1 : Int) := by omega
                        have j3 : (s1 : Int) - (i2 : Int) = (s2 : Int) := by omega
                        have j4 : (i2 : Int) + (n : Int) = (q1 : Int) := by omega
                        have j5 : (s2 : Int) - (n : Int) = (q2 : Int) := by omega
                        have j6 : (i2 : Int) + (j : Int) = (q3 : Int) := by omega
                        have j7 : (s2 : Int) - (j : Int) = (q4 : Int) := by omega
                        have b1 : q1 < S := by omega
                        have b2 : q2 < S := by omega
                        have b3 : q3 < S := by omega
                        have b4 : q4 < S := by omega
                        have c1 := HLS.out.place q1 (by rw [← HWE.out.2]; exact b1)
                        have c2 := HLS.out.place q2 (by rw [← HWE.out.2]; exact b2)
                        have c3 := HLS.out.place q3 (by rw [← HWE.out.2]; exact b3)
                        have c4 := HLS.out.place q4 (by rw [← HWE.out.2]; exact b4)
                        have cw := HLS.out.wt.cells.1
                        have cb := HLS.out.rd t htN
                        obtain ⟨bt, hbt⟩ : ∃ b, b = nthB bits t := ⟨_, rfl⟩
                        rw [← hbt] at cb
                        have HBT := Lib.hid hbt
                        obtain ⟨N, hN⟩ : ∃ N, N = bits.length := ⟨_, rfl⟩
                        have hNb : N ≤ 624 * 32 := by rw [hN, HBL.out]; exact HOB.out.2
                        rw [← hN] at cw htN
                        have htN0 : (0 : Int) ≤ (t : Int) := by omega
                        have htN1 : (t : Int) < (N : Int) := by omega
                        obtain ⟨a1, ha1⟩ : ∃ a, a = plc cm l q1 := ⟨_, rfl⟩
                        obtain ⟨a2, ha2⟩ : ∃ a, a = plc cm l q2 := ⟨_, rfl⟩
                        obtain ⟨a3, ha3⟩ : ∃ a, a = plc cm l q3 := ⟨_, rfl⟩
                        obtain ⟨a4, ha4⟩ : ∃ a, a = plc cm l q4 := ⟨_, rfl⟩
                        rw [← ha1] at c1
                        rw [← ha2] at c2
                        rw [← ha3] at c3
                        rw [← ha4] at c4
                        have HA1 : Hid (a1 = plc cm l (2 * i + n)) := Lib.hid (by rw [ha1, hq1, hi2])
                        have HA2 : Hid (a2 = plc cm l (S - 1 - 2 * i - n)) := Lib.hid (by rw [ha2, hq2, hs2, hs1, hi2])
                        have HA3 : Hid (a3 = plc cm l (2 * i + j)) := Lib.hid (by rw [ha3, hq3, hi2])
                        have HA4 : Hid (a4 = plc cm l (S - 1 - 2 * i - j)) := Lib.hid (by rw [ha4, hq4, hs2, hs1, hi2])
                        have d1 : (q1 : Int) < (S : Int) := by omega
                        have d2 : (q2 : Int) < (S : Int) := by omega
                        have d3 : (q3 : Int) < (S : Int) := by omega
                        have d4 : (q4 : Int) < (S : Int) := by omega
                        have e1 : (0 : Int) ≤ (q1 : Int) := by omega
                        have e2 : (0 : Int) ≤ (q2 : Int) := by omega
                        have e3 : (0 : Int) ≤ (q3 : Int) := by omega
                        have e4 : (0 : Int) ≤ (q4 : Int) := by omega
                        have hsm : i2 ≤ 64 ∧ s1 ≤ 142 ∧ s2 ≤ 142 := by omega
                        clear hi2 hs1 hs2 hq1 hq2 hq3 hq4 ha1 ha2 ha3 ha4 hbt hN hLs
                        have hk4' : k = 0 ∨ k = 1 ∨ k = 2 ∨ k = 3 := by omega
                        rcases hk4' with rfl | rfl | rfl | rfl
                        · have hmx : a1 = plc cm l (mx cm l i 0 j n) := by rw [HA1.out]; unfold mx; simp; (try rw [← HWE.out.2]); (try omega)
                          have hmy : a3 = plc cm l (my cm l i 0 j n) := by rw [HA3.out]; unfold my; simp; (try rw [← HWE.out.2]); (try omega)
                          have hxw : a1 < Wh := by rw [hmx, HWE.out.1]; exact plc_lt (m_lt hil (by omega) hjl' hn2).1
                          have hyw : a3 < Wh := by rw [hmy, HWE.out.1]; exact plc_lt (m_lt hil (by omega) hjl' hn2).2
                          have hx0 : (0 : Int) ≤ (a1 : Int) := by omega
                          have hx1 : (a1 : Int) < (Wh : Int) := by omega
                          have hy0 : (0 : Int) ≤ (a3 : Int) := by omega
                          have hy1 : (a3 : Int) < (Wh : Int) := by omega
                          have hgy := HLS.out.head a3 (by rw [← HWE.out.1]; exact hyw)
                          obtain ⟨old, hold⟩ := HLS.out.old a3 a1 (by rw [← HWE.out.1]; exact hyw) (by rw [← HWE.out.1]; exact hxw)
                          have hfr := HLS.out.free a3 a1 (by rw [← HWE.out.1]; exact hyw)
                          rw [← HWE.out.1] at hgy
                          have HST : Hid (LayS cm l bits w (wn.setCell ⟨G + 1 + a3, a1, none⟩ (.bool bt)) P G E pw bb bo cap (t + 1)) := Lib.hid (by rw [HBT.out]; exact HLS.out.step hil (show 0 < 4 by omega) hjl' hn2 (by rw [HT.out]; unfold at_; rw [HLE.out]) hmx hmy)
                          clear hmx hmy hxw hyw HLS
                          go_wp2_with fail
                          go_quiet (fail)
                          go_wp2_with fail
                          go_quiet (fail)
                          go_wp2_with fail
                          go_region
                          go_wp2_with fail
                          go_roundw
                          case rel => exact ⟨n + 1, t + 1, by omega, by go_num, by go_num, Lib.hid (by have := HT.out; omega), Lib.hid (HST.out.drewN _)⟩
                          case measure => simp [intOf]; omega
                        · have hmx : a3 = plc cm l (mx cm l i 1 j n) := by rw [HA3.out]; unfold mx; simp; (try rw [← HWE.out.2]); (try omega)
                          have hmy : a2 = plc cm l (my cm l i 1 j n) := by rw [HA2.out]; unfold my; simp; (try rw [← HWE.out.2]); (try omega)
                          have hxw : a3 < Wh := by rw [hmx, HWE.out.1]; exact plc_lt (m_lt hil (by omega) hjl' hn2).1
                          have hyw : a2 < Wh := by rw [hmy, HWE.out.1]; exact plc_lt (m_lt hil (by omega) hjl' hn2).2
                          have hx0 : (0 : Int) ≤ (a3 : Int) := by omega
                          have hx1 : (a3 : Int) < (Wh : Int) := by omega
                          have hy0 : (0 : Int) ≤ (a2 : Int) := by omega
                          have hy1 : (a2 : Int) < (Wh : Int) := by omega
                          have hgy := HLS.out.head a2 (by rw [← HWE.out.1]; exact hyw)
                          obtain ⟨old, hold⟩ := HLS.out.old a2 a3 (by rw [← HWE.out.1]; exact hyw) (by rw [← HWE.out.1]; exact hxw)
                          have hfr := HLS.out.free a2 a3 (by rw [← HWE.out.1]; exact hyw)
                          rw [← HWE.out.1] at hgy
                          have HST : Hid (LayS cm l bits w (wn.setCell ⟨G + 1 + a2, a3, none⟩ (.bool bt)) P G E pw bb bo cap (t + 1)) := Lib.hid (by rw [HBT.out]; exact HLS.out.step hil (show 1 < 4 by omega) hjl' hn2 (by rw [HT.out]; unfold at_; rw [HLE.out]) hmx hmy)
                          clear hmx hmy hxw hyw HLS
                          go_wp2_with fail
                          go_quiet (fail)
                          go_wp2_with fail
                          go_quiet (fail)
                          go_wp2_with fail
                          go_region
                          go_wp2_with fail
                          go_roundw
                          case rel => exact ⟨n + 1, t + 1, by omega, by go_num, by go_num, Lib.hid (by have := HT.out; omega), Lib.hid (HST.out.drewN _)⟩
                          case measure => simp [intOf]; omega
                        · have hmx : a2 = plc cm l (mx cm l i 2 j n) := by rw [HA2.out]; unfold mx; simp; (try rw [← HWE.out.2]); (try omega)
                          have hmy : a4 = plc cm l (my cm l i 2 j n) := by rw [HA4.out]; unfold my; simp; (try rw [← HWE.out.2]); (try omega)
                          have hxw : a2 < Wh := by rw [hmx, HWE.out.1]; exact plc_lt (m_lt hil (by omega) hjl' hn2).1
                          have hyw : a4 < Wh := by rw [hmy, HWE.out.1]; exact plc_lt (m_lt hil (by omega) hjl' hn2).2
                          have hx0 : (0 : Int) ≤ (a2 : Int) := by omega
                          have hx1 : (a2 : Int) < (Wh : Int) := by omega
                          have hy0 : (0 : Int) ≤ (a4 : Int) := by omega
                          have hy1 : (a4 : Int) < (Wh : Int) := by omega
                          have hgy := HLS.out.head a4 (by rw [← HWE.out.1]; exact hyw)
                          obtain ⟨old, hold⟩ := HLS.out.old a4 a2 (by rw [← HWE.out.1]; exact hyw) (by rw [← HWE.out.1]; exact hxw)
                          have hfr := HLS.out.free a4 a2 (by rw [← HWE.out.1]; exact hyw)
                          rw [← HWE.out.1] at hgy
                          have HST : Hid (LayS cm l bits w (wn.setCell ⟨G + 1 + a4, a2, none⟩ (.bool bt)) P G E pw bb bo cap (t + 1)) := Lib.hid (by rw [HBT.out]; exact HLS.out.step hil (show 2 < 4 by omega) hjl' hn2 (by rw [HT.out]; unfold at_; rw [HLE.out]) hmx hmy)
                          clear hmx hmy hxw hyw HLS
                          go_wp2_with fail
                          go_quiet (fail)
                          go_wp2_with fail
                          go_quiet (fail)
                          go_wp2_with fail
                          go_region
                          go_wp2_with fail
                          go_roundw
                          case rel => exact ⟨n + 1, t + 1, by omega, by go_num, by go_num, Lib.hid (by have := HT.out; omega), Lib.hid (HST.out.drewN _)⟩
                          case measure => simp [intOf]; omega
                        · have hmx : a4 = plc cm l (mx cm l i 3 j n) := by rw [HA4.out]; unfold mx; simp; (try rw [← HWE.out.2]); (try omega)
                          have hmy : a1 = plc cm l (my cm l i 3 j n) := by rw [HA1.out]; unfold my; simp; (try rw [← HWE.out.2]); (try omega)
                          have hxw : a4 < Wh := by rw [hmx, HWE.out.1]; exact plc_lt (m_lt hil (by omega) hjl' hn2).1
                          have hyw : a1 < Wh := by rw [hmy, HWE.out.1]; exact plc_lt (m_lt hil (by omega) hjl' hn2).2
                          have hx0 : (0 : Int) ≤ (a4 : Int) := by omega
                          have hx1 : (a4 : Int) < (Wh : Int) := by omega
                          have hy0 : (0 : Int) ≤ (a1 : Int) := by omega
                          have hy1 : (a1 : Int) < (Wh : Int) := by omega
                          have hgy := HLS.out.head a1 (by rw [← HWE.out.1]; exact hyw)
                          obtain ⟨old, hold⟩ := HLS.out.old a1 a4 (by rw [← HWE.out.1]; exact hyw) (by rw [← HWE.out.1]; exact hxw)
                          have hfr := HLS.out.free a1 a4 (by rw [← HWE.out.1]; exact hyw)
                          rw [← HWE.out.1] at hgy
                          have HST : Hid (LayS cm l bits w (wn.setCell ⟨G + 1 + a1, a4, none⟩ (.bool bt)) P G E pw bb bo cap (t + 1)) := Lib.hid (by rw [HBT.out]; exact HLS.out.step hil (show 3 < 4 by omega) hjl' hn2 (by rw [HT.out]; unfold at_; rw [HLE.out]) hmx hmy)
                          clear hmx hmy hxw hyw HLS
                          go_wp2_with fail
                          go_quiet (fail)
                          go_wp2_with fail
                          go_quiet (fail)
                          go_wp2_with fail
                          go_region
                          go_wp2_with fail
                          go_roundw
                          case rel => exact ⟨n + 1, t + 1, by omega, by go_num, by go_num, Lib.hid (by have := HT.out; omega), Lib.hid (HST.out.drewN _)⟩
                          case measure => simp [intOf]; omega
                      · obtain rfl : n = 2 := by omega
                        have HT9 : Hid (t = off cm l i + 2 * (L * k) + 2 * (j + 1)) := Lib.hid (by have := HT.out; omega)
                        clear HT
                        go_wp2_with fail
                        go_roundw
                        case rel => exact ⟨j + 1, t, by omega, by go_num, rfl, HT9, HLS⟩
                        case measure => simp [intOf]; omega
                  · obtain rfl : j = L := by omega
                    have hkk : ((j : Int) < (j : Int)) = False := by simp
                    have HT9 : Hid (t3 = off cm l i + 2 * (j * (k + 1))) := Lib.hid (by have := HT.out; rw [Nat.mul_add]; omega)
                    clear HT
                    go_wp2_with fail
                    go_roundw
                    case rel => exact ⟨k + 1, t3, by omega, by go_num, rfl, HT9, HLSj⟩
                    case measure => simp [intOf]; omega
              · obtain rfl : k = 4 := by omega
                have HT9 : Hid (t2 = off cm l (i + 1)) := Lib.hid (by have := HT.out; have := HLE.out; show t2 = off cm l i + 8 * lng cm l i; omega)
                clear HT
                go_wp2_with fail
                go_roundw
                case rel => exact ⟨i + 1, t2, by omega, by go_num, rfl, HT9, HLSk⟩
                case measure => simp [intOf]; omega
        · obtain rfl : i = l := by omega
          have hkk : ((i : Int) < (i : Int)) = False := by simp
          clear HBI2 HGP HGE
          go_wp2_with fail
          go_ret
          obtain ⟨⟨g, hg, hh⟩, h2, h3, h4, h5, h6, h7, h8, h9, h10⟩ := HLS.out
          exact ⟨G, g, rfl, Lib.hid (by rw [HWE.out.1]; exact hg), Lib.hid (by rw [← HT.out]; exact hh), Lib.hid h4⟩
end Go.Proofs.YtiielblnmfeapaaGreatDoor
