/-
  A picture of modules: RDDrawn, walked. No condition beyond the bounds that the theorem states.
-/
import Derived.Test.YtfnfikmijkeimaaRDI
import Derived.Test.YtfnfikmijkeimaaRDJ
import Derived.Deep.DeepCutAuto
namespace Go.Proofs.Ytfnfikmijkeimaa
open Go.RowKit Go.Qz
set_option linter.unusedVariables false

/-- The pixels of a picture of modules. -/
def pic (f : Nat → Nat → Bool) (B l0 l1 H W y x : Nat) : Bool := decide (l1 ≤ y ∧ y < l1 + B * H) && wf (f ((y - l1) / B)) B l0 W x
theorem pic_out {f : Nat → Nat → Bool} {B l0 l1 H W y x : Nat} (h : y < l1 ∨ l1 + B * H ≤ y) : pic f B l0 l1 H W y x = false := by unfold pic; rw [decide_eq_false (by omega)]; rfl
theorem pic_in {f : Nat → Nat → Bool} {B l0 l1 H W i t x : Nat} (hi : i < H) (ht : t < B) : pic f B l0 l1 H W (l1 + B * i + t) x = wf (f i) B l0 W x := by
  unfold pic
  have h1 : B * (i + 1) ≤ B * H := Nat.mul_le_mul_left _ hi
  rw [Nat.mul_add, Nat.mul_one] at h1
  rw [decide_eq_true (by omega), Bool.true_and]
  congr 2
  rw [show l1 + B * i + t - l1 = t + B * i from by omega, Nat.add_mul_div_left _ _ (by omega), Nat.div_eq_of_lt ht, Nat.zero_add]
def DrawnPost (f : Nat → Nat → Bool) (B H W : Nat) (l : Nat → Nat) (w : World) (e : Ending) (w' : World) : Prop := ∃ A C, e = .returned (.slice A (l 1 + B * H + l 3) C) ∧ Hid (l 1 + B * H + l 3 ≤ C ∧ C ≤ maxLen ∧ Rows2 w' A (l 1 + B * H + l 3) (l 0 + B * W + l 2) (pic f B (l 0) (l 1) H W)) ∧ Below w.heap.size w w'
/-- A light row is appended: what holds of the world in which it has been made. -/
theorem Pile.light {w : World} {base k W : Nat} {v : Value} {V : Nat → Value} {f : Nat → Nat → Bool} (h : Pile w base v k W V f) (hb : base ≤ w.heap.size) (hz : ∀ c, c < W → f k c = false) :
    Pile (w.alloc (.cells (zeros W (.bool false)) 4)) base v k W V f ∧ (∀ v' w', w'.ownsRow base 40 1 v' (k + 1) ((List.range k).map V ++ [.slice (some ⟨w.heap.size, 0, none⟩) W W]) → (w.alloc (.cells (zeros W (.bool false)) 4)).grownBy w' v.ownBlock → (v'.ownBlock = v.ownBlock ∨ v'.ownBlock = some ((w.alloc (.cells (zeros W (.bool false)) 4)).heap.size + 1)) → ∃ V', Pile w' base v' (k + 1) W V' f) := by
  have hbl : Below w.heap.size w (w.alloc (.cells (zeros W (.bool false)) 4)) := (Below.refl _ _).alloc (Nat.le_refl _) _
  have hp := h.below hbl
  refine ⟨hp, fun v' w' hown hg hl => ⟨_, hp.push hb (by simp) (fun e => by have := (h.own.lt _ e).2; omega) (Nat.le_refl _) (fun c hc => ?_) hown hg hl⟩⟩
  rw [hz c hc]
  have := (Arr.new w 4 (List.replicate W (.bool false))).cell? c
  rw [show zeros W (.bool false) = (List.replicate W (Value.bool false)).toArray from rfl, this]
  simp [hc]
set_option maxRecDepth 100000 in
set_option maxHeartbeats 6400000 in
theorem rdDrawn (f : Nat → Nat → Bool) (B H W c : Nat) (l : Nat → Nat) (hH0 : 0 < H) (hH : H ≤ 200) (hW0 : 0 < W) (hW : W ≤ 200) (hok : BoxOk B H W l) (A0 : Option Addr) (A : Array Value) (hA : A = (row4 l).toArray) (w : World) (h : Rows2 w A0 H W f) :
    Calls Try.prog 8 #[.slice A0 H c, .int .i64 B, .agg A] w (DrawnPost f B H W l w) := by
  have HR := Lib.hid h
  obtain ⟨o1, o2, o3, o4, o5⟩ := hok
  have x0 := o5 0 (by omega)
  have x1 := o5 1 (by omega)
  have x2 := o5 2 (by omega)
  have x3 := o5 3 (by omega)
  obtain ⟨l0, hl0⟩ : ∃ x, x = l 0 := ⟨_, rfl⟩
  obtain ⟨l1, hl1⟩ : ∃ x, x = l 1 := ⟨_, rfl⟩
  obtain ⟨l2, hl2⟩ : ∃ x, x = l 2 := ⟨_, rfl⟩
  obtain ⟨l3, hl3⟩ : ∃ x, x = l 3 := ⟨_, rfl⟩
  rw [row4_lit] at hA
  unfold DrawnPost
  rw [← hl0] at x0 hA ⊢
  rw [← hl1] at x1 hA ⊢
  rw [← hl2] at x2 hA ⊢
  rw [← hl3] at x3 hA ⊢
  clear o5 hl0 hl1 hl2 hl3
  obtain ⟨BW, hBW⟩ : ∃ x, x = B * W := ⟨_, rfl⟩
  obtain ⟨WW, hWW⟩ : ∃ x, x = l0 + B * W + l2 := ⟨_, rfl⟩
  obtain ⟨HH, hHH⟩ : ∃ x, x = l1 + B * H + l3 := ⟨_, rfl⟩
  rw [← hBW] at o4
  have m1 : (B : Int) * (W : Int) = (BW : Int) := by rw [hBW]; simp
  have m2 : IntKind.i64.wrap (BW : Int) = (BW : Int) := by rw [IntKind.wrap_i64]; omega
  have m3 : IntKind.i64.wrap ((l0 : Int) + (l2 : Int)) = (l0 : Int) + (l2 : Int) := by rw [IntKind.wrap_i64]; omega
  have m4 : IntKind.i64.wrap ((l0 : Int) + (l2 : Int) + (BW : Int)) = (WW : Int) := by rw [IntKind.wrap_i64]; omega
  have hWWb : WW ≤ 1000 := by omega
  have hmk := fun X => run_make1 (P := Try.prog) 40 4 (.bool false) 1 Try.underlying40 Try.infoBool' rfl (by decide) WW (by omega) .i64 .i64 WW rfl X
  have HWW := Lib.hid hWW
  have HHH := Lib.hid hHH
  rw [← hWW, ← hHH]
  obtain ⟨rb0, ro0, rfl, hrb0, hrc0⟩ := h hH0
  obtain ⟨Bh, Ch, h00, _⟩ := hrc0 0 hH0
  rw [Nat.add_zero] at h00
  have hH1 : (0 : Int) < (H : Int) := by omega
  obtain ⟨E, hE⟩ : ∃ E, E = w.heap.size := ⟨_, rfl⟩
  have hAr := Arr.new w 30 [.int .i64 l0, .int .i64 l1, .int .i64 l2, .int .i64 l3]
  rw [← hA, ← hE] at hAr
  obtain ⟨W0, hW0⟩ : ∃ W0, W0 = w.alloc (.cells A 30) := ⟨_, rfl⟩
  have hb0 : Below w.heap.size w W0 := by rw [hW0]; exact (Below.refl _ _).alloc (Nat.le_refl _) _
  rw [← hW0] at hAr
  have HW0 := Lib.hid hW0
  have HAr := Lib.hid hAr
  have HB0 := Lib.hid hb0
  have HE := Lib.hid hE
  have h00' := (hb0.cell (p := ⟨rb0, ro0, none⟩) hrb0).trans h00
  have HSZ0 : Hid (W0.heap.size = E + 1) := Lib.hid (by rw [hW0, hE]; simp)
  have d0 := hAr.cell? 0
  have d1 := hAr.cell? 1
  have d2 := hAr.cell? 2
  simp only [List.getElem?_cons_zero, List.getElem?_cons_succ] at d0 d1 d2
  obtain ⟨P, hP⟩ : ∃ P, P = pic f B l0 l1 H W := ⟨_, rfl⟩
  have HP := Lib.hid hP
  have HZ0 : Hid (Pile W0 (E + 1) (.slice none 0 0) 0 WW (fun _ => undef) P) := Lib.hid (Pile.zero _ _ _ _)
  have HX1 : Hid (B ≤ l1 ∧ l1 < 7 * B) := Lib.hid x1
  have HX3 : Hid (B ≤ l3 ∧ l3 < 7 * B) := Lib.hid x3
  rw [← hP]
  clear h hA hAr hb0 hW0 hP hBW hWW hHH hrc0 h00
  go_enter Try.func8, Try.ntmps8
  go_upto_region 1 with (fail)
  rw [← HE.out, ← HW0.out]
  clear hE
  go_wp2_with fail
  clear d0 d1 d2 h00'
  go_loopw [8, 29] (fun v i wr => ∃ (k : Nat) (V : Nat → Value), k ≤ l1 ∧ i = .int .i64 k ∧ Hid (Pile wr (E + 1) v k WW V P) ∧ Hid (Below (E + 1) W0 wr)) (fun _ i _ => l1 - (intOf i).toNat)
  case atStart => exact ⟨0, _, by omega, rfl, HZ0, Lib.hid (Below.refl _ _)⟩
  case round =>
    obtain ⟨wo, hwo⟩ : ∃ wo, wo = wr := ⟨_, rfl⟩
    rw [← hwo] at hrel ⊢
    clear hwo
    obtain ⟨v, hv⟩ : ∃ v, v = u8 := ⟨_, rfl⟩
    rw [← hv] at hrel ⊢
    clear hv
    obtain ⟨k, V, hk, rfl, HPk, HB⟩ := hrel
    clear HZ0
    by_cases hlt : k < l1
    · have hk1 : (k : Int) < (l1 : Int) := by omega
      have hlg := HPk.out.light (by have := HB.out.size; have := HSZ0.out; omega) (fun c _ => by rw [HP.out]; exact pic_out (.inl hlt))
      obtain ⟨Wz, hWz⟩ : ∃ Wz, Wz = wo.alloc (.cells (zeros WW (.bool false)) 4) := ⟨_, rfl⟩
      rw [← hWz] at hlg
      have HLG := Lib.hid hlg
      have HWz := Lib.hid hWz
      have hbz : Below (E + 1) W0 Wz := by rw [hWz]; exact HB.out.alloc (by have := HB.out.size; have := HSZ0.out; omega) _
      have HBz := Lib.hid hbz
      have HSZ : Hid (E + 1 ≤ Wz.heap.size) := Lib.hid (by have := hbz.size; have := HSZ0.out; omega)
      have HSE : Hid (Wz.heap.size = wo.heap.size + 1) := Lib.hid (by rw [hWz]; simp)
      clear hlg hWz hbz
      go_wp2_with (at_builtin; rw [← HWz.out]; refine wpList_pushAt _ _ 28 (E + 1) 40 (.slice none 0 0) 24 v k ((List.range k).map V) (.slice (some ⟨wo.heap.size, 0, none⟩) WW WW) rfl rfl rfl (by show Value.slice (some ⟨wo.heap.size + 1, 0, none⟩) 1 1 = _; rw [HSE.out]) Try.underlying28 Try.infoBools rfl rfl (by decide) HLG.out.1.own (by omega) HSZ.out ?_)
      intro v' w' hown' hg' hb' hl'
      obtain ⟨V', hP'⟩ := HLG.out.2 v' w' hown' hg' hl'
      have HP2 : Hid (Pile w' (E + 1) v' (k + 1) WW V' P) := Lib.hid hP'
      have HB2 := Lib.hid (HBz.out.trans hb')
      clear hown' hg' hb' hl' hP' HLG HWz HBz HB HPk
      go_wp2_with fail
      go_roundw
      case rel => exact ⟨k + 1, V', by omega, by go_num, HP2, HB2⟩
      case measure => simp [intOf]; omega
    · obtain rfl : k = l1 := by omega
      have HPk' := HPk
      clear HPk
      have HK1 : Hid (k = k + B * 0) := Lib.hid (by simp)
      clear hlt hk
      go_wp2_with fail
      go_loopw [8, 39] (fun v i wr => ∃ (q K : Nat) (V : Nat → Value), q ≤ H ∧ i = .int .i64 q ∧ Hid (K = k + B * q) ∧ Hid (Pile wr (E + 1) v K WW V P) ∧ Hid (Below (E + 1) W0 wr)) (fun _ i _ => H - (intOf i).toNat)
      case atStart => exact ⟨0, k, V, by omega, rfl, HK1, HPk', HB⟩
      case round =>
        obtain ⟨wo, hwo⟩ : ∃ wo, wo = wr := ⟨_, rfl⟩
        rw [← hwo] at hrel ⊢
        clear hwo
        obtain ⟨v, hv⟩ : ∃ v, v = u8 := ⟨_, rfl⟩
        rw [← hv] at hrel ⊢
        clear hv HPk' HB
        obtain ⟨q, K, V, hq, rfl, HK, HPk, HB⟩ := hrel
        by_cases hlt : q < H
        · have hq1 : (q : Int) < (H : Int) := by omega
          have hq0 : (0 : Int) ≤ (q : Int) := by omega
          obtain ⟨rb, ro, e0, hrb, hrc⟩ := HR.out hH0
          injection e0 with e0
          injection e0 with e0 e1 _
          subst e0 e1
          obtain ⟨Bq, Cq, hrow0, hrd⟩ := hrc q hlt
          have hrow := ((HB0.out.trans (HB.out.mono (by have := HE.out; omega))).cell (p := ⟨rb0, ro0 + q, none⟩) hrb).trans hrow0
          clear hrow0
          have HRD := Lib.hid hrd
          have HBK : Hid (∀ t, t < B → ∀ c, P (K + t) c = wf (f q) B l0 W c) := Lib.hid (fun t ht c => by rw [HP.out, HK.out]; exact pic_in hlt ht)
          have hKb : K ≤ 2000 := by
            have h1 : B * q ≤ B * H := Nat.mul_le_mul_left _ hq
            have := HK.out; have := HX1.out; omega
          clear hrc hrd
          go_wp2_with fail
          go_loopw [8, 44] (fun v i wr => ∃ (t : Nat) (V : Nat → Value), t ≤ B ∧ i = .int .i64 t ∧ Hid (Pile wr (E + 1) v (K + t) WW V P) ∧ Hid (Below (E + 1) wo wr)) (fun _ i _ => B - (intOf i).toNat)
          case atStart => exact ⟨0, V, by omega, rfl, HPk, Lib.hid (Below.refl _ _)⟩
          case round =>
            obtain ⟨wu, hwu⟩ : ∃ wu, wu = wr := ⟨_, rfl⟩
            rw [← hwu] at hrel ⊢
            clear hwu
            obtain ⟨v, hv⟩ : ∃ v, v = u8 := ⟨_, rfl⟩
            rw [← hv] at hrel ⊢
            clear hv HPk
            obtain ⟨t, V, ht, rfl, HPt, HBu⟩ := hrel
            by_cases hlt2 : t < B
            · have ht1 : (t : Int) < (B : Int) := by omega
              have hbu := HB.out.trans HBu.out
              have HBU := Lib.hid hbu
              have hAu := HAr.out.below hbu (Nat.lt_succ_self E)
              have d0 := hAu.cell? 0
              have d2 := hAu.cell? 2
              simp only [List.getElem?_cons_zero, List.getElem?_cons_succ] at d0 d2
              have HOW := Lib.hid (odWider (f q) W Cq B l0 l2 WW (by omega) (by omega) (by omega) (by omega) (by omega) HWW.out Bq wu (HRD.out.below (HB0.out.trans (hbu.mono (by have := HE.out; omega)))))
              clear hbu hAu
              go_wp2_with fail
              refine HOW.out.mono ?_
              rintro e w2 ⟨b2, C2, rfl, hw2, hb2⟩
              have hp2 := HPt.out.below hb2
              have HP2 := Lib.hid hp2
              have HB2 : Hid (Below (E + 1) wo w2) := Lib.hid (HBu.out.trans (hb2.mono (by have := HBU.out.size; have := HSZ0.out; omega)))
              have HSZ : Hid (E + 1 ≤ w2.heap.size) := Lib.hid (by have := hb2.size; have := HBU.out.size; have := HSZ0.out; omega)
              have HPP : Hid (∀ (v' : Value) (w' : World), w'.ownsRow (E + 1) 40 1 v' (K + t + 1) ((List.range (K + t)).map V ++ [.slice (some ⟨b2, 0, none⟩) WW C2]) → w2.grownBy w' v.ownBlock → (v'.ownBlock = v.ownBlock ∨ v'.ownBlock = some (w2.heap.size + 1)) → ∃ V', Hid (Pile w' (E + 1) v' (K + (t + 1)) WW V' P)) := Lib.hid (fun v' w' hown hg hl => by
                obtain ⟨k1, k2, k3, k4⟩ := hw2.out
                exact ⟨_, Lib.hid (hp2.push (by have := HBU.out.size; have := HSZ0.out; omega) k2 (fun e => by have := (HPt.out.own.lt _ e).2; omega) k3 (fun c hc => by rw [HBK.out t hlt2 c]; exact k4 c hc) hown hg hl)⟩)
              clear hp2 hw2 hb2 HOW d0 d2
              go_wp2_with (at_builtin; refine wpList_pushAt _ _ 28 (E + 1) 40 (.slice none 0 0) 24 v (K + t) ((List.range (K + t)).map V) (.slice (some ⟨b2, 0, none⟩) WW C2) rfl rfl rfl rfl Try.underlying28 Try.infoBools rfl rfl (by decide) HP2.out.own (by omega) HSZ.out ?_)
              intro v' w' hown' hg' hb' hl'
              obtain ⟨V', hP'⟩ := HPP.out v' w' hown' hg' hl'
              have HB3 := Lib.hid (HB2.out.trans hb')
              clear hown' hg' hb' hl' HPP HP2 HPt HBu HBU
              go_wp2_with fail
              go_roundw
              case rel => exact ⟨t + 1, V', by omega, by go_num, hP', HB3⟩
              case measure => simp [intOf]; omega
            · obtain rfl : t = B := by omega
              have HK2 : Hid (K + t = k + t * (q + 1)) := Lib.hid (by rw [Nat.mul_add, Nat.mul_one]; have := HK.out; omega)
              have HB3 := Lib.hid (HB.out.trans HBu.out)
              clear HK hrow
              go_wp2_with fail
              go_roundw
              case rel => exact ⟨q + 1, K + t, V, by omega, by go_num, HK2, HPt, HB3⟩
              case measure => simp [intOf]; omega
        · obtain rfl : q = H := by omega
          have HK0 : Hid (K = k + B * q) := HK
          obtain ⟨K0, hK0⟩ : ∃ K0, K0 = K := ⟨_, rfl⟩
          rw [← hK0] at HK0 HPk
          have hK0b : K0 ≤ 2000 := by have := HK0.out; have := HX1.out; omega
          have d3 := (HAr.out.below HB.out (Nat.lt_succ_self E)).cell? 3
          simp only [List.getElem?_cons_zero, List.getElem?_cons_succ] at d3
          have HPk0 := HPk
          clear HPk hK0 HK hq hlt
          go_wp2_with fail
          clear d3
          go_loopw [8, 60] (fun v i wr => ∃ (k : Nat) (V : Nat → Value), k ≤ l3 ∧ i = .int .i64 k ∧ Hid (Pile wr (E + 1) v (K0 + k) WW V P) ∧ Hid (Below (E + 1) W0 wr)) (fun _ i _ => l3 - (intOf i).toNat)
          case atStart => exact ⟨0, V, by omega, rfl, HPk0, HB⟩
          case round =>
            obtain ⟨wo, hwo⟩ : ∃ wo, wo = wr := ⟨_, rfl⟩
            rw [← hwo] at hrel ⊢
            clear hwo
            obtain ⟨v, hv⟩ : ∃ v, v = u8 := ⟨_, rfl⟩
            rw [← hv] at hrel ⊢
            clear hv
            obtain ⟨k, V, hk, rfl, HPk, HB⟩ := hrel
            clear HPk0
            by_cases hlt : k < l3
            · have hk1 : (k : Int) < (l3 : Int) := by omega
              have hlg := HPk.out.light (by have := HB.out.size; have := HSZ0.out; omega) (fun c _ => by rw [HP.out]; exact pic_out (.inr (by have := HK0.out; omega)))
              obtain ⟨Wz, hWz⟩ : ∃ Wz, Wz = wo.alloc (.cells (zeros WW (.bool false)) 4) := ⟨_, rfl⟩
              rw [← hWz] at hlg
              have HLG := Lib.hid hlg
              have HWz := Lib.hid hWz
              have hbz : Below (E + 1) W0 Wz := by rw [hWz]; exact HB.out.alloc (by have := HB.out.size; have := HSZ0.out; omega) _
              have HBz := Lib.hid hbz
              have HSZ : Hid (E + 1 ≤ Wz.heap.size) := Lib.hid (by have := hbz.size; have := HSZ0.out; omega)
              have HSE : Hid (Wz.heap.size = wo.heap.size + 1) := Lib.hid (by rw [hWz]; simp)
              clear hlg hWz hbz
              go_wp2_with (at_builtin; rw [← HWz.out]; refine wpList_pushAt _ _ 28 (E + 1) 40 (.slice none 0 0) 24 v (K0 + k) ((List.range (K0 + k)).map V) (.slice (some ⟨wo.heap.size, 0, none⟩) WW WW) rfl rfl rfl (by show Value.slice (some ⟨wo.heap.size + 1, 0, none⟩) 1 1 = _; rw [HSE.out]) Try.underlying28 Try.infoBools rfl rfl (by decide) HLG.out.1.own (by omega) HSZ.out ?_)
              intro v' w' hown' hg' hb' hl'
              obtain ⟨V', hP'⟩ := HLG.out.2 v' w' hown' hg' hl'
              have HP2 : Hid (Pile w' (E + 1) v' (K0 + (k + 1)) WW V' P) := Lib.hid hP'
              have HB2 := Lib.hid (HBz.out.trans hb')
              clear hown' hg' hb' hl' hP' HLG HWz HBz HB HPk
              go_wp2_with fail
              go_roundw
              case rel => exact ⟨k + 1, V', by omega, by go_num, HP2, HB2⟩
              case measure => simp [intOf]; omega
            · obtain rfl : k = l3 := by omega
              have HN : Hid (HH = K0 + k) := Lib.hid (by have := HK0.out; have := HHH.out; omega)
              obtain ⟨A1, cp, rfl, h1, h2, h3⟩ := HPk.out.rows
              have HQ : Hid (HH ≤ cp ∧ cp ≤ maxLen ∧ Rows2 wo A1 HH WW P) := Lib.hid (by rw [HN.out]; exact ⟨h1, h2, h3⟩)
              have HBB : Hid (Below w.heap.size w wo) := Lib.hid (by
                have q1 := HB0.out
                have q2 := HB.out
                have q3 := HE.out
                exact q1.trans (q2.mono (by omega)))
              clear h1 h2 h3
              go_wp2_with fail
              go_ret
              exact ⟨A1, cp, by rw [HN.out]; rfl, HQ, HBB.out⟩
end Go.Proofs.Ytfnfikmijkeimaa
