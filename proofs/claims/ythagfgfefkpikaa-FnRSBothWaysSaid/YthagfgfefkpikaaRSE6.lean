/-
  RSAt, RSIsCode, rsWords, walked. No condition beyond the bounds that each theorem states.
-/
import Derived.Test.YthagfgfefkpikaaRSE5
import Derived.Test.YthagfgfefkpikaaRSD6
import Derived.Deep.RegionHeld3
namespace Go.Proofs.Ythagfgfefkpikaa
open Go.RowKit Go.Qz Go.Qz.RS
set_option linter.unusedVariables false

theorem co_last (l : List Nat) (n : Nat) (h : n < l.length) : co l n = nth l (l.length - 1 - n) := by unfold co; rw [if_pos h]

set_option maxRecDepth 100000 in
set_option maxHeartbeats 3200000 in
theorem rsAt (F : Fld) (hF : Six F) (l : List Nat) (hn : l.length < 1000000) (he : El F l) (x : Nat) (hx : x < F.size) (A : Option Addr) (c : Nat) (w : World) (h : Rd w A l.length (fun j => .int .i64 (nth l j : Nat))) :
    Calls Try.prog 43 #[fv F, .slice A l.length c, .int .i64 x] w fun e w' => e = .returned (.int .i64 (ev F l x : Nat)) ∧ Below w.heap.size w w' := by
  have hs := hF.bounds
  have hAr : Arr (w.alloc (.cells #[.int .i64 F.prim, .int .i64 F.size, .int .i64 F.base] 23)) 23 w.heap.size [.int .i64 F.prim, .int .i64 F.size, .int .i64 F.base] := Arr.new _ _ _
  have hb0 : Below w.heap.size w (w.alloc (.cells #[.int .i64 F.prim, .int .i64 F.size, .int .i64 F.base] 23)) := (Below.refl _ _).alloc (Nat.le_refl _) _
  have HR := Lib.hid h
  have HE := Lib.hid he
  have HX := Lib.hid hx
  unfold fv
  clear h he
  go_enter Try.func43, Try.ntmps43
  go_wp2_with fail
  generalize w.alloc (.cells #[.int .i64 F.prim, .int .i64 F.size, .int .i64 F.base] 23) = W1 at *
  obtain ⟨H, hH⟩ : ∃ H, H = w.heap.size := ⟨_, rfl⟩
  rw [← hH] at hAr hb0 ⊢
  have HH := Lib.hid hH
  clear hH
  go_loopw [7, 8, 9] (fun o p i wr => ∃ (k : Nat) (I : Int), k ≤ l.length ∧ I = (l.length : Int) - 1 - (k : Int) ∧ i = .int .i64 I ∧ p = .int .i64 (pw F x k : Nat) ∧ o = .int .i64 (ve F (co l) x k : Nat) ∧ Arr wr 23 H [.int .i64 F.prim, .int .i64 F.size, .int .i64 F.base] ∧ Below H w wr) (fun _ _ i _ => (1 + intOf i).toNat)
  case atStart => exact ⟨0, _, by omega, by omega, rfl, rfl, rfl, hAr, hb0⟩
  case round =>
    obtain ⟨k, I, hk, hI, rfl, rfl, rfl, hA2, hB2⟩ := hrel
    clear hAr hb0
    by_cases hlt : k < l.length
    · obtain ⟨i, hi⟩ : ∃ i, i = l.length - 1 - k := ⟨_, rfl⟩
      have eI : I = (i : Int) := by omega
      subst eI
      obtain ⟨lb, lo, rfl, hlb, hlc⟩ := HR.out (by omega)
      have cL : wr.cell? ⟨lb, lo + i, none⟩ = some (.int .i64 (nth l i : Nat)) := (hB2.cell (p := ⟨lb, lo + i, none⟩) (by rw [HH.out]; exact hlb)).trans (hlc i (by omega))
      have hi0 : (0 : Int) ≤ (i : Int) := by omega
      have hi1 : (i : Int) < (l.length : Int) := by omega
      have a0 := hA2.cell? 0
      have a1 := hA2.cell? 1
      have a2 := hA2.cell? 2
      simp only [List.getElem?_cons_zero, List.getElem?_cons_succ] at a0 a1 a2
      have hpl := pw_lt hF (x := x) k
      have hvl := ve_lt hF (co_lt HE.out) x k
      have hml := mul_lt hF (b := pw F x k) (HE.out i)
      have hco : co l k = nth l i := by rw [co_last l k hlt, hi]
      have HV : Hid (ve F (co l) x (k + 1) = ve F (co l) x k ^^^ mul F (nth l i) (pw F x k)) := Lib.hid (by rw [ve_succ, hco])
      have HP : Hid (pw F x (k + 1) = mul F (pw F x k) x) := Lib.hid rfl
      have hR1 := fun W => rsTimes F hF (nth l i) (pw F x k) (pw F x k) rfl (HE.out i) hpl W
      have hR2 := fun W => rsTimes F hF (pw F x k) x x rfl hpl HX.out W
      unfold fv at hR1 hR2
      obtain ⟨p, hp⟩ : ∃ p, p = pw F x k := ⟨_, rfl⟩
      obtain ⟨v, hv⟩ : ∃ v, v = ve F (co l) x k := ⟨_, rfl⟩
      rw [← hp] at hR1 hR2 HV HP hpl hml ⊢
      rw [← hv] at HV hvl ⊢
      obtain ⟨m, hm⟩ : ∃ m, m = mul F (nth l i) p := ⟨_, rfl⟩
      obtain ⟨q, hq⟩ : ∃ q, q = mul F p x := ⟨_, rfl⟩
      rw [← hm] at hR1 HV hml
      rw [← hq] at hR2 HP
      have hxr := i64_xor v m (by omega) (by omega)
      have HKEEP : Hid (∀ W W', Below H w W → Arr W 23 H [.int .i64 F.prim, .int .i64 F.size, .int .i64 F.base] → H < W.heap.size → Below W.heap.size W W' → (W'.cell? ⟨H, 0, none⟩ = some (.int .i64 F.prim) ∧ W'.cell? ⟨H, 1, none⟩ = some (.int .i64 F.size) ∧ W'.cell? ⟨H, 2, none⟩ = some (.int .i64 F.base) ∧ W'.cell? ⟨lb, lo + i, none⟩ = some (.int .i64 (nth l i : Nat)) ∧ Hid (Below H w W') ∧ Hid (Arr W' 23 H [.int .i64 F.prim, .int .i64 F.size, .int .i64 F.base]))) := Lib.hid (fun W W' hW hA hl hb => by
        have hB : Below H w W' := hW.trans (hb.mono (by omega))
        have hA' := hA.below hb hl
        have d0 := hA'.cell? 0
        have d1 := hA'.cell? 1
        have d2 := hA'.cell? 2
        simp only [List.getElem?_cons_zero, List.getElem?_cons_succ] at d0 d1 d2
        exact ⟨d0, d1, d2, (hB.cell (p := ⟨lb, lo + i, none⟩) (by rw [HH.out]; exact hlb)).trans (hlc i (by omega)), Lib.hid hB, Lib.hid hA'⟩)
      have hs0 := HKEEP.out wr wr.drew hB2 hA2 hA2.lt (Below.refl _ _).drew
      have HR1 := Lib.hid (fun (W : World) (hW : W.cell? ⟨H, 0, none⟩ = some (.int .i64 F.prim) ∧ W.cell? ⟨H, 1, none⟩ = some (.int .i64 F.size) ∧ W.cell? ⟨H, 2, none⟩ = some (.int .i64 F.base) ∧ W.cell? ⟨lb, lo + i, none⟩ = some (.int .i64 (nth l i : Nat)) ∧ Hid (Below H w W) ∧ Hid (Arr W 23 H [.int .i64 F.prim, .int .i64 F.size, .int .i64 F.base])) =>
        (hR1 W).mono (R' := fun e w' => e = .returned (.int .i64 (m : Nat)) ∧ (w'.cell? ⟨H, 0, none⟩ = some (.int .i64 F.prim) ∧ w'.cell? ⟨H, 1, none⟩ = some (.int .i64 F.size) ∧ w'.cell? ⟨H, 2, none⟩ = some (.int .i64 F.base) ∧ w'.cell? ⟨lb, lo + i, none⟩ = some (.int .i64 (nth l i : Nat)) ∧ Hid (Below H w w') ∧ Hid (Arr w' 23 H [.int .i64 F.prim, .int .i64 F.size, .int .i64 F.base]))) (by
          rintro e w' ⟨rfl, hb⟩
          exact ⟨rfl, HKEEP.out W w' hW.2.2.2.2.1.out hW.2.2.2.2.2.out hW.2.2.2.2.2.out.lt hb⟩))
      have HR2 := Lib.hid hR2
      have HA2 := Lib.hid hA2
      have HB2 := Lib.hid hB2
      have hIn : Hid ((i : Int) = (l.length : Int) - 1 - (k : Int)) := Lib.hid hI
      clear hR1 hR2 hA2 hB2 cL a0 a1 a2 hm hq hp hv hlc hco hi hI hlt
      go_wp2_with fail
      go_region_held3 (fun w' => w'.cell? ⟨H, 0, none⟩ = some (.int .i64 F.prim) ∧ w'.cell? ⟨H, 1, none⟩ = some (.int .i64 F.size) ∧ w'.cell? ⟨H, 2, none⟩ = some (.int .i64 F.base) ∧ w'.cell? ⟨lb, lo + i, none⟩ = some (.int .i64 (nth l i : Nat)) ∧ Hid (Below H w w') ∧ Hid (Arr w' 23 H [.int .i64 F.prim, .int .i64 F.size, .int .i64 F.base]))
        (first | exact hs0 | exact hs3)
        (first | (go_at_call 34; refine (HR1.out _ (by assumption)).mono ?_; rintro en w3 ⟨rfl, hs3⟩))
      all_goals
        have HB3 := hs3.2.2.2.2.1
        have HA3 := hs3.2.2.2.2.2
        have b0 := hs3.1
        have b1 := hs3.2.1
        have b2 := hs3.2.2.1
        clear hs3 hs0 HR1
        go_wp2_with fail
        refine (HR2.out _).mono ?_
        rintro en w4 ⟨rfl, hb4⟩
        have HB4 := Lib.hid (HB3.out.trans (hb4.mono (by have := HA3.out.lt; omega)))
        have HA4 := Lib.hid (HA3.out.below hb4 HA3.out.lt)
        clear hb4 b0 b1 b2 HR2 HB3 HA3
        go_wp2_with fail
        go_roundw
        case rel => exact ⟨k + 1, (i : Int) - 1, by have := hIn.out; omega, by have := hIn.out; omega, rfl, by rw [HP.out], by rw [HV.out], HA4.out, HB4.out⟩
        case measure => simp [intOf]; omega
    · obtain rfl : k = l.length := by omega
      have hI2 : I = -1 := by omega
      subst hI2
      have HV : Hid (ve F (co l) x l.length = ev F l x) := Lib.hid rfl
      rw [HV.out]
      have HB2 := Lib.hid hB2
      clear hB2 hA2 hI
      go_wp2_with fail
      go_ret
      exact ⟨rfl, by rw [← HH.out]; exact HB2.out⟩

set_option maxRecDepth 100000 in
set_option maxHeartbeats 3200000 in
theorem rsIsCode (F : Fld) (hF : Six F) (l : List Nat) (hn : l.length < 1000000) (he : El F l) (ec : Nat) (hec : ec < 100000) (hroots : ∀ i, i < ec → ev F l (ex F (i + F.base)) = 0) (A : Option Addr) (c : Nat) (w : World) (h : Rd w A l.length (fun j => .int .i64 (nth l j : Nat))) :
    Calls Try.prog 28 #[fv F, .slice A l.length c, .int .i64 ec] w fun e w' => e = .returned (.bool true) ∧ Below w.heap.size w w' := by
  have hs := hF.bounds
  have hAr : Arr (w.alloc (.cells #[.int .i64 F.prim, .int .i64 F.size, .int .i64 F.base] 23)) 23 w.heap.size [.int .i64 F.prim, .int .i64 F.size, .int .i64 F.base] := Arr.new _ _ _
  have hb0 : Below w.heap.size w (w.alloc (.cells #[.int .i64 F.prim, .int .i64 F.size, .int .i64 F.base] 23)) := (Below.refl _ _).alloc (Nat.le_refl _) _
  have HR := Lib.hid h
  have HE := Lib.hid he
  have HZ := Lib.hid hroots
  have HPW := rsPower F hF F.base (by omega) (w.alloc (.cells #[.int .i64 F.prim, .int .i64 F.size, .int .i64 F.base] 23))
  unfold fv at HPW ⊢
  have HPW := Lib.hid HPW
  clear h he hroots
  go_enter Try.func28, Try.ntmps28
  go_wp2_with fail
  refine HPW.out.mono ?_
  rintro en w1 ⟨rfl, hb1⟩
  have hA1 := hAr.below hb1 (by simp)
  have hB1 := hb0.trans (hb1.mono hb0.size)
  obtain ⟨H, hH⟩ : ∃ H, H = w.heap.size := ⟨_, rfl⟩
  rw [← hH] at hA1 hB1 ⊢
  have HH := Lib.hid hH
  clear hH hAr hb0 hb1 HPW
  go_wp2_with fail
  go_loopw [7, 8] (fun r i wr => ∃ k : Nat, k ≤ ec ∧ i = .int .i64 k ∧ r = .int .i64 (ex F (k + F.base) : Nat) ∧ Arr wr 23 H [.int .i64 F.prim, .int .i64 F.size, .int .i64 F.base] ∧ Below H w wr) (fun _ i _ => ec - (intOf i).toNat)
  case atStart => exact ⟨0, by omega, rfl, by rw [Nat.zero_add], hA1, hB1⟩
  case round =>
    obtain ⟨k, hk, rfl, rfl, hA2, hB2⟩ := hrel
    clear hA1 hB1
    by_cases hlt : k < ec
    · have a0 := hA2.cell? 0
      have a1 := hA2.cell? 1
      have a2 := hA2.cell? 2
      simp only [List.getElem?_cons_zero, List.getElem?_cons_succ] at a0 a1 a2
      have hexl := ex_lt F (by omega) (k + F.base)
      have HAT := rsAt F hF l hn HE.out (ex F (k + F.base)) hexl A c wr (HR.out.below (by rw [← HH.out]; exact hB2))
      rw [HZ.out k hlt] at HAT
      have hR2 := fun W => rsTimes F hF (ex F (k + F.base)) 2 2 rfl hexl (by omega) W
      rw [mul_two hF hexl] at hR2
      have HST : Hid (ex F (k + 1 + F.base) = RS.step F (ex F (k + F.base))) := Lib.hid (by rw [show k + 1 + F.base = (k + F.base) + 1 by omega]; rfl)
      unfold fv at HAT hR2
      have HR2 := Lib.hid hR2
      have HAT := Lib.hid HAT
      have HA2 := Lib.hid hA2
      have HB2 := Lib.hid hB2
      clear hR2 hA2 hB2
      obtain ⟨x, hx⟩ : ∃ x, x = ex F (k + F.base) := ⟨_, rfl⟩
      obtain ⟨y, hy⟩ : ∃ y, y = RS.step F x := ⟨_, rfl⟩
      rw [← hx] at HR2 HAT HST hexl ⊢
      rw [← hy] at HR2 HST
      clear hx hy
      go_wp2_with fail
      refine HAT.out.mono ?_
      rintro en w3 ⟨rfl, hb3⟩
      have HA3 := Lib.hid (HA2.out.below hb3 HA2.out.lt)
      have HB3 := Lib.hid (HB2.out.trans (hb3.mono (by have := HA2.out.lt; omega)))
      have b0 := HA3.out.cell? 0
      have b1 := HA3.out.cell? 1
      have b2 := HA3.out.cell? 2
      simp only [List.getElem?_cons_zero, List.getElem?_cons_succ] at b0 b1 b2
      clear hb3 a0 a1 a2 HAT HA2 HB2
      go_wp2_with fail
      refine (HR2.out _).mono ?_
      rintro en w4 ⟨rfl, hb4⟩
      have HB4 := Lib.hid (HB3.out.trans (hb4.mono (by have := HA3.out.lt; omega)))
      have HA4 := Lib.hid (HA3.out.below hb4 HA3.out.lt)
      clear hb4 b0 b1 b2 HR2 HB3 HA3
      go_wp2_with fail
      go_roundw
      case rel => exact ⟨k + 1, by omega, by go_num, by rw [HST.out], HA4.out, HB4.out⟩
      case measure => simp [intOf]; omega
    · obtain rfl : k = ec := by omega
      have HB2 := Lib.hid hB2
      clear hB2 hA2
      go_wp2_with fail
      go_ret
      exact ⟨rfl, by rw [← HH.out]; exact HB2.out⟩

/-- What rsWords makes. -/
def WordsPost (F : Fld) (w : World) (en : Ending) (w' : World) : Prop :=
  ∃ (A : Option Addr) (c many : Nat) (data : List Nat), en = .returned (.tuple #[.slice A data.length c, .int .i64 many, .bool (decide (data ≠ []))]) ∧ SlQ w' (fun k => w.heap.size ≤ k) A data c ∧ El F data ∧ 2 ≤ many ∧ many + 1 ≤ F.size ∧ data.length + many + 1 ≤ F.size ∧ data.length + many ≤ 255 ∧ many ≤ 41 ∧ Below w.heap.size w w'
set_option maxRecDepth 100000 in
set_option maxHeartbeats 3200000 in
theorem rsWords (F : Fld) (hF : Six F) (hF16 : 16 ≤ F.size) (z : Nat → Int) (A : Option Addr) (n c : Nat) (E : Int) (hE0 : 0 ≤ E) (hE1 : E ≤ 255) (w : World) (hn : n < 4294967296) (hz : ∀ j, j < n → -9223372036854775808 ≤ z j ∧ z j ≤ 9223372036854775807) (h : Rd w A n (fun j => .int .i64 (z j))) :
    Calls Try.prog 26 #[fv F, .slice A n c, .int .u8 E] w (WordsPost F w) := by
  have hs := hF.bounds
  have hb0 : Below w.heap.size w (w.alloc (.cells #[.int .i64 F.prim, .int .i64 F.size, .int .i64 F.base] 23)) := (Below.refl _ _).alloc (Nat.le_refl _) _
  obtain ⟨most, hmost⟩ : ∃ most, most = min (F.size - 1) 255 := ⟨_, rfl⟩
  have e1 : (if (255 : Int) < (F.size : Int) - 1 then (255 : Int) else (F.size : Int) - 1) = (most : Int) := by split <;> omega
  have e1b : (if (F.size : Int) - 1 < (255 : Int) then (F.size : Int) - 1 else (255 : Int)) = (most : Int) := by split <;> omega
  obtain ⟨lim, hlim⟩ : ∃ lim, lim = min 40 (most - 2) := ⟨_, rfl⟩
  have e2 : (if (most : Int) - 2 < (40 : Int) then (most : Int) - 2 else (40 : Int)) = (lim : Int) := by split <;> omega
  have e2b : (if (40 : Int) < (most : Int) - 2 then (40 : Int) else (most : Int) - 2) = (lim : Int) := by split <;> omega
  obtain ⟨m, hm⟩ : ∃ m : Nat, (m : Int) = E % (lim : Int) := ⟨(E % (lim : Int)).toNat, by have := Int.emod_nonneg E (show (lim : Int) ≠ 0 by omega); omega⟩
  have hml : (m : Int) < lim := by rw [hm]; exact Int.emod_lt_of_pos _ (by omega)
  have hmt : E.tmod (lim : Int) = (m : Int) := by rw [Int.tmod_eq_emod_of_nonneg hE0, hm]
  have hl0 : ¬ (lim : Int) = 0 := by omega
  have hm2 : E % (lim : Int) = (m : Int) := hm.symm
  have hrem := fun W => rem_run E (lim : Int) (m : Int) hl0 hmt W
  obtain ⟨many, hmany⟩ : ∃ many, many = 2 + m := ⟨_, rfl⟩
  have e3 : (2 : Int) + (m : Int) = (many : Int) := by omega
  obtain ⟨room, hroom⟩ : ∃ room, room = most - many := ⟨_, rfl⟩
  have e4 : (most : Int) - (many : Int) = (room : Int) := by omega
  have HEL := rsElements F ⟨hs.1, hs.2.1⟩ z A n c room (room : Int) rfl (by omega) (w.alloc (.cells #[.int .i64 F.prim, .int .i64 F.size, .int .i64 F.base] 23)) hn hz (h.below hb0)
  obtain ⟨data, hdata⟩ : ∃ data, data = elems F z (min n room) := ⟨_, rfl⟩
  rw [← hdata] at HEL
  have hdl : data.length = min n room := by rw [hdata, elems_length]
  have hde : El F data := by
    intro j
    by_cases hj : j < data.length
    · have := elems_lt F hs.1 z (min n room) (nth data j) (by rw [← hdata]; exact nth_mem hj)
      exact this
    · rw [nth_past (by omega)]; omega
  unfold fv at HEL ⊢
  have HEL := Lib.hid HEL
  have HDE := Lib.hid hde
  have HDL := Lib.hid hdl
  have b1 : 2 ≤ many := by omega
  have b2 : data.length + many + 1 ≤ F.size := by omega
  have b3 : data.length + many ≤ 255 := by omega
  have b4 : many ≤ 41 := by omega
  have b5 : most ≤ 255 := by omega
  have b6 : 14 ≤ most := by omega
  have b7 : lim ≤ 40 := by omega
  have b8 : 2 ≤ lim := by omega
  clear hz h hdata hde hdl hroom hmany hm hmt hl0 hlim hmost hml
  go_enter Try.func26, Try.ntmps26
  go_wp2_with fail
  refine HEL.out.mono ?_
  rintro en w1 ⟨v, rfl, hown, hb1⟩
  obtain ⟨A', c', rfl, hl, hlc, hcm, hsl⟩ := slq_of_own (Q := fun k => w.heap.size ≤ k) hown (fun k hk => by simp at hk; omega)
  rw [← HDL.out] at *
  have HS := Lib.hid hsl
  have HB := Lib.hid (hb0.trans (hb1.mono hb0.size))
  clear hown hsl hb0 hb1 HEL
  by_cases hd0 : data = []
  · have hl0 : data.length = 0 := by rw [hd0]; rfl
    have hgt : ((0 : Int) < (data.length : Int)) = False := by simp; omega
    have hgt2 : (0 < data.length) = False := by simp; omega
    have hdec : decide (data ≠ []) = false := by simp [hd0]
    have HDEC := Lib.hid hdec
    clear hd0 hdec hl0
    go_wp2_with fail
    go_ret3
    exact ⟨A', c', many, data, by rw [HDEC.out]; rfl, HS.out, HDE.out, b1, by omega, b2, b3, b4, HB.out⟩
  · have hl0 := List.length_pos_iff.2 hd0
    have hgt : ((0 : Int) < (data.length : Int)) := by omega
    have hdec : decide (data ≠ []) = true := by simp [hd0]
    have HDEC := Lib.hid hdec
    clear hd0 hdec
    go_wp2_with fail
    go_ret3
    exact ⟨A', c', many, data, by rw [HDEC.out]; rfl, HS.out, HDE.out, b1, by omega, b2, b3, b4, HB.out⟩
end Go.Proofs.Ythagfgfefkpikaa
