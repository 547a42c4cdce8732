/-
  The binarizer by one bound: GetBlackMatrix, walked. No condition beyond the bounds that the theorem states.
-/
import Derived.Test.YthgnmcofclndlaaPYD
import Derived.Deep.RegionHeld3
namespace Go.Proofs.Ythgnmcofclndlaa
open Go.RowKit Go.Qz Go.Qz.PX
set_option linter.unusedVariables false

theorem u8_and_255 : ∀ a : Nat, a < 256 → bits .and .u8 (a : Int) 255 = (a : Int) := by decide +kernel
set_option maxRecDepth 100000 in
theorem ghSource (g p bk : Nat) (L : Value) (b : Nat → Nat) (w : World) (h : GH w g p bk L b) :
    Calls Try.prog 71 #[.pointer (some ⟨g, 0, none⟩)] w fun e w' => e = .returned (.iface 72 (.pointer (some ⟨p, 0, none⟩))) ∧ w = w' := by
  have c0 := h.c0
  clear h
  go_enter Try.func71, Try.ntmps71
  go_wp2_with fail
  go_ret
  exact ⟨rfl, rfl⟩
theorem n_row (p : Nat) (w : World) : (nilAhead 243 72 (.pointer (some ⟨p, 0, none⟩)) "GetRow").run Try.prog w = .ok (some false) w := by kernel_rfl
/-- The gray of a pixel. -/
def gy (Z : Nat → Nat → Bool) (d l y x : Nat) : Nat := if Z y x then d else l
theorem gy_256 {Z : Nat → Nat → Bool} {d l y x : Nat} (h : TwoOk d l) : gy Z d l y x < 256 := by unfold gy; have := h.1; have := h.2; split <;> omega
/-- Counts so far: of two groups alone, not too many, and those that have been met are there. -/
def Cn (b : Nat → Nat) (d l m : Nat) : Prop := (∀ x, x < 32 → x ≠ d / 8 → x ≠ l / 8 → b x = 0) ∧ ∀ x, b x ≤ m
def upN (b : Nat → Nat) (k : Nat) : Nat → Nat := fun x => if x = k then b k + 1 else b x
theorem Cn.up {b : Nat → Nat} {d l m k : Nat} (h : Cn b d l m) (hk : k = d / 8 ∨ k = l / 8) : Cn (upN b k) d l (m + 1) := by
  refine ⟨fun x h1 h2 h3 => ?_, fun x => ?_⟩
  · unfold upN; rw [if_neg (by omega)]; exact h.1 x h1 h2 h3
  · unfold upN; split
    · have := h.2 k; omega
    · have := h.2 x; omega
theorem upN_pos {b : Nat → Nat} {k x : Nat} (h : 0 < b x) : 0 < upN b k x := by
  unfold upN; split
  · omega
  · exact h
/-- What has been met is counted. -/
def Met2 (Z : Nat → Nat → Bool) (b : Nat → Nat) (d l y q x : Nat) : Prop := ∀ i, q ≤ i → i < x → 0 < b (gy Z d l y i / 8)
theorem Met2.up {Z : Nat → Nat → Bool} {b : Nat → Nat} {d l y q x : Nat} (h : Met2 Z b d l y q x) : Met2 Z (upN b (gy Z d l y x / 8)) d l y q (x + 1) := fun i h1 h2 => by
  by_cases e : i = x
  · subst e; unfold upN; rw [if_pos rfl]; omega
  · exact upN_pos (h i h1 (by omega))
theorem Met2.both {Z : Nat → Nat → Bool} {b : Nat → Nat} {d l y q t : Nat} (h : Met2 Z b d l y q t) (hb : Both (Z y) q t) : 0 < b (d / 8) ∧ 0 < b (l / 8) := by
  obtain ⟨i, h1, h2, h3⟩ := hb
  have g1 := h i (by omega) h2
  have g2 := h q (Nat.le_refl _) (by omega)
  unfold gy at g1 g2
  cases e1 : Z y i <;> cases e2 : Z y q <;> simp_all
/-- The dark pixels of a picture. -/
def BlackPost (Z : Nat → Nat → Bool) (W H gh bk : Nat) (w : World) (e : Ending) (w' : World) : Prop := ∃ p g ws, e = .returned (.tuple #[.pointer (some ⟨p, 0, none⟩), .nilIface]) ∧ Hid (BM w' p g ws W H) ∧ Hid (∀ x y, x < W → y < H → mb ws W x y = Z y x) ∧ Hid (Mod (GB gh bk) w w')

set_option maxRecDepth 100000 in
set_option maxHeartbeats 16000000 in
theorem ghBlack (Z : Nat → Nat → Bool) (W H N d l c g p bk e0 : Nat) (hW1 : 1 ≤ W) (hW : W ≤ 200) (hH1 : 1 ≤ H) (hH : H ≤ 200) (hdl : TwoOk d l) (hmid : Middle Z H W) (hN : N = W * H) (hNc : N ≤ c) (hcm : c ≤ maxLen) (A : Option Addr) (w : World)
    (hG : GH w g p bk (.slice (some ⟨e0, 0, none⟩) 0 0) (fun _ => 0)) (hs : SrcIs w p A N c W H 0 0 W H) (hr : Rd w A N (fun j => .int .u8 ((gr Z W d l j : Nat) : Int)))
    (hA : ∀ a, A = some a → a.block ≠ g ∧ a.block ≠ bk) (hp : p ≠ g ∧ p ≠ bk) :
    Calls Try.prog 68 #[.pointer (some ⟨g, 0, none⟩)] w (BlackPost Z W H g bk w) := by
  have a0 := hs.cell? 0
  have a1 := hs.cell? 1
  simp only [List.getElem?_cons_zero, List.getElem?_cons_succ] at a0 a1
  have HSO := Lib.hid (ghSource g p bk _ _ w hG)
  have HWW := Lib.hid (getWidth p 0 W w a0)
  have HHH := Lib.hid (getHeight p 0 H w a1)
  have h1 := fun X => m_width p X
  have h2 := fun X => m_height p X
  have HNB := Lib.hid (bm_new W H (by omega) (by omega) (by omega) (by omega) w)
  have HG := Lib.hid hG
  have HS := Lib.hid hs
  have HR := Lib.hid hr
  have HDL := Lib.hid hdl
  have HMI := Lib.hid hmid
  have HNN := Lib.hid hN
  have HAB := Lib.hid hA
  have HAL : Hid (∀ a, A = some a → 0 < N → a.block < w.heap.size) := Lib.hid (fun a ha h0 => by
    obtain ⟨ab, ao, e, hlt, _⟩ := hr h0
    rw [ha] at e; injection e with e; subst e; exact hlt)
  have HPB := Lib.hid hp
  have hneq2 : ∀ X, (binOp .neq 51 .nilIface .nilIface).run Try.prog X = .ok (.bool false) X := fun X => rfl
  clear hG hs hr hdl hmid hN hA hp a0 a1
  go_enter Try.func68, Try.ntmps68
  go_wp2_with fail
  refine HSO.out.mono ?_
  rintro e w1 ⟨rfl, rfl⟩
  go_wp2_with fail
  refine HWW.out.mono ?_
  rintro e w1 ⟨rfl, rfl⟩
  go_wp2_with fail
  refine HHH.out.mono ?_
  rintro e w1 ⟨rfl, rfl⟩
  clear h1 h2 HSO HWW HHH
  go_wp2_with fail
  refine HNB.out.mono ?_
  rintro e w1 ⟨pm, gm, rfl, hbm, hb1, hpm, hgm⟩
  have HMA1 : Hid (Mod (GB g bk) w w1) := Lib.hid (Mod.of_below hb1)
  have HBM := Lib.hid hbm
  have HG1 := Lib.hid (HG.out.below hb1)
  have HS1 := Lib.hid (SrcIs.below HS.out hb1)
  have HR1 := Lib.hid (HR.out.below hb1)
  have HIN := Lib.hid (ghInit g p bk e0 W hW1 (by omega) _ w1 HG1.out)
  have HPM : Hid (w.heap.size ≤ pm ∧ w.heap.size ≤ gm ∧ g < w.heap.size ∧ bk < w.heap.size ∧ p < w.heap.size) := Lib.hid ⟨hpm, hgm, HG.out.hg.lt, HG.out.hb.lt, HS.out.lt⟩
  clear hbm hb1 hpm hgm HNB HG HS HR HG1
  go_wp2_with fail
  refine HIN.out.mono ?_
  rintro e w2 ⟨rfl, R, HG2, HA2, hRw, HM2⟩
  have HMA2 : Hid (Mod (GB g bk) w w2) := Lib.hid (HMA1.out.trans HM2.out)
  have HRBIG : Hid (w.heap.size ≤ R) := Lib.hid (by have := HMA1.out.size; omega)
  have HBM2 : Hid (BM w2 pm gm (List.replicate ((W + 31) / 32 * H) 0) W H) := Lib.hid (HBM.out.mod HM2.out (by rintro (e | e) <;> (have := HPM.out; omega)) (by rintro (e | e) <;> (have := HPM.out; omega)))
  have HS2 : Hid (SrcIs w2 p A N c W H 0 0 W H) := Lib.hid (Arr.mod HS1.out HM2.out (by rintro (e | e) <;> (have := HPB.out; omega)))
  have HR2 : Hid (Rd w2 A N (fun j => .int .u8 ((gr Z W d l j : Nat) : Int))) := Lib.hid (Mod.rd HR1.out HM2.out (fun a ha _ => by
    have := HAB.out a ha
    rintro (e | e) <;> omega))
  have HRP : Hid (R ≠ g ∧ R ≠ bk ∧ R ≠ p ∧ R ≠ pm ∧ R ≠ gm ∧ (∀ a, A = some a → 0 < N → R ≠ a.block)) := Lib.hid (by
    have q1 := HPM.out
    have q2 := HBM.out.plt
    have q3 := HBM.out.glt
    have q4 := HS1.out.lt
    refine ⟨by omega, by omega, by omega, by omega, by omega, fun a ha hN0 => ?_⟩
    obtain ⟨ab, ao, e, hab, _⟩ := HR1.out hN0
    rw [ha] at e
    injection e with e
    subst e
    dsimp only
    omega)
  clear HIN hRw HBM HS1 HR1 HM2
  have c2 := HG2.out.c2
  go_wp2_with fail
  clear c2
  obtain ⟨q, hq⟩ : ∃ q, q = W / 5 := ⟨_, rfl⟩
  obtain ⟨t, ht⟩ : ∃ t, t = 4 * W / 5 := ⟨_, rfl⟩
  have HQT : Hid (q = W / 5 ∧ t = 4 * W / 5) := Lib.hid ⟨hq, ht⟩
  have htW : t ≤ W := by omega
  have hqb : q ≤ 200 := by omega
  have f1 : ((W : Int) * 4).tdiv 5 = (t : Int) := by rw [Int.tdiv_eq_ediv_of_nonneg (by omega)]; omega
  have f2 : (W : Int).tdiv 5 = (q : Int) := by rw [Int.tdiv_eq_ediv_of_nonneg (by omega)]; omega
  have f3 : IntKind.i64.wrap ((W : Int) * 4) = (W : Int) * 4 := by rw [IntKind.wrap_i64]; omega
  have f4 : IntKind.i64.wrap (t : Int) = (t : Int) := by rw [IntKind.wrap_i64]; omega
  have f5 : IntKind.i64.wrap (q : Int) = (q : Int) := by rw [IntKind.wrap_i64]; omega
  have HC0 : Hid (Cn (fun _ => 0) d l 0) := Lib.hid ⟨fun _ _ _ _ => rfl, fun _ => Nat.le_refl _⟩
  have HCU0 : Hid ((List.replicate W (Value.int .u8 0)).length = W) := Lib.hid (by simp)
  clear hq ht
  go_loopw [10] (fun i wr => ∃ (y m : Nat) (b : Nat → Nat) (cur : List Value), 1 ≤ y ∧ y ≤ 5 ∧ i = .int .i64 y ∧ m ≤ (y - 1) * 200 ∧ Hid (GH wr g p bk (.slice (some ⟨R, 0, none⟩) W W) b) ∧ Hid (Arr wr 5 R cur) ∧ Hid (cur.length = W) ∧ Hid (Mod (fun k => k = bk ∨ k = R) w2 wr) ∧ Hid (Cn b d l m) ∧ Hid (1 < y → 0 < b (d / 8) ∧ 0 < b (l / 8))) (fun i _ => 5 - (intOf i).toNat)
  case atStart => exact ⟨1, 0, _, _, by omega, by omega, rfl, by omega, HG2, HA2, HCU0, Lib.hid (Mod.refl _), HC0, Lib.hid (by omega)⟩
  case round =>
    obtain ⟨wo, hwo⟩ : ∃ wo, wo = wr := ⟨_, rfl⟩
    rw [← hwo] at hrel ⊢
    clear hwo HG2 HA2 HC0 HCU0
    obtain ⟨y, m, b, cur, hy1, hy5, rfl, hm, HGo, HAo, HCU, HM, HC, HPO⟩ := hrel
    have HSo : Hid (SrcIs wo p A N c W H 0 0 W H) := Lib.hid (Arr.mod HS2.out HM.out (by have := HPB.out; have := HRP.out; rintro (e | e) <;> omega))
    have HRo : Hid (Rd wo A N (fun j => .int .u8 ((gr Z W d l j : Nat) : Int))) := Lib.hid (Mod.rd HR2.out HM.out (fun a ha h0 => by
      have := HAB.out a ha
      have := HRP.out.2.2.2.2.2 a ha h0
      rintro (e | e) <;> omega))
    by_cases hlt : y < 5
    · have hyi : (y : Int) < 5 := by omega
      obtain ⟨r, hr⟩ : ∃ r, r = H * y / 5 := ⟨_, rfl⟩
      have hHy : H * y ≤ 200 * 4 := Nat.mul_le_mul hH (by omega)
      have hrH : r < H := by
        rw [hr]; apply Nat.div_lt_of_lt_mul; rw [Nat.mul_comm]; exact Nat.mul_lt_mul_of_pos_right hlt (by omega)
      obtain ⟨hy', hhy⟩ : ∃ k, k = H * y := ⟨_, rfl⟩
      rw [← hhy] at hr hHy
      have g1 : (H : Int) * (y : Int) = (hy' : Int) := by rw [hhy]; simp
      have g2 : IntKind.i64.wrap (hy' : Int) = (hy' : Int) := by rw [IntKind.wrap_i64]; omega
      have g3 : (hy' : Int).tdiv 5 = (r : Int) := by rw [Int.tdiv_eq_ediv_of_nonneg (by omega)]; omega
      have g4 : IntKind.i64.wrap (r : Int) = (r : Int) := by rw [IntKind.wrap_i64]; omega
      have HX : Hid (∀ w9, w9.cell? ⟨g, 1, none⟩ = some (.slice (some ⟨R, 0, none⟩) W W) ∧ Hid (Mod (· = R) wo w9) → (∃ cur', Arr w9 5 R cur' ∧ cur'.length = W) → Calls Try.prog 58 #[.pointer (some ⟨p, 0, none⟩), .int .i64 r, .slice (some ⟨R, 0, none⟩) W W] w9 (fun e w' => e = .returned (.tuple #[.slice (some ⟨R, 0, none⟩) W W, .nilIface]) ∧ Hid (Arr w' 5 R (rowY (fun j => ((gr Z W d l j : Nat) : Int)) W r)) ∧ (w'.cell? ⟨g, 1, none⟩ = some (.slice (some ⟨R, 0, none⟩) W W) ∧ Hid (Mod (· = R) wo w')))) := Lib.hid (fun w9 h9 ⟨cur', ha9, hc9⟩ => by
        have q1 := HRP.out
        refine (getRow2 p R A N c W H r (fun j => ((gr Z W d l j : Nat) : Int)) cur' hc9 HNN.out hNc hcm hW1 hW hH hrH w9 (Arr.mod HSo.out h9.2.out (by omega)) (Mod.rd HRo.out h9.2.out (fun a ha h0 => by have := q1.2.2.2.2.2 a ha h0; omega)) ha9).mono ?_
        rintro e w' ⟨rfl, k1, k2⟩
        have k3 := h9.2.out.trans k2
        exact ⟨rfl, Lib.hid k1, (World.cell?_of_block (w := w9) (k2.block g (by have := HGo.out.hg.lt; have := h9.2.out.size; omega) (by omega))).trans h9.1, Lib.hid k3⟩)
      have hs0 : wo.drew.cell? ⟨g, 1, none⟩ = some (.slice (some ⟨R, 0, none⟩) W W) ∧ Hid (Mod (· = R) wo wo.drew) := ⟨HGo.out.c1, Lib.hid (Mod.refl _).drew⟩
      have HAC : Hid (∃ cur', Arr wo.drew 5 R cur' ∧ cur'.length = W) := Lib.hid ⟨cur, HAo.out, HCU.out⟩
      have h3 := fun X => m_row p X
      have h4 := fun X => n_row p X
      clear hr hhy
      go_wp2_with fail
      go_region_held3 (fun w' => w'.cell? ⟨g, 1, none⟩ = some (.slice (some ⟨R, 0, none⟩) W W) ∧ Hid (Mod (· = R) wo w'))
        (first | exact hs0 | exact hs3)
        (first | (go_at_call 58; refine (HX.out _ (by assumption) HAC.out).mono ?_; rintro e w3 ⟨rfl, hrow, hs3⟩))
      all_goals
        have HM3 : Hid (Mod (· = R) wo w3) := hs3.2
        have HG3 : Hid (GH w3 g p bk (.slice (some ⟨R, 0, none⟩) W W) b) := Lib.hid ⟨HGo.out.hg.mod HM3.out (fun e => HRP.out.1 e.symm), HGo.out.hb.mod HM3.out (fun e => HRP.out.2.1 e.symm), HGo.out.ne⟩
        have HRW : Hid (Arr w3 5 R (rowY (fun j => ((gr Z W d l j : Nat) : Int)) W r)) := hrow
        have HMW : Hid (Mod (fun k => k = bk ∨ k = R) w2 w3) := Lib.hid (HM.out.trans (HM3.out.mono (fun k _ hk => .inr hk)))
        have HBO : Hid (Both (Z r) q t) := Lib.hid (by have := HMI.out r hrH; rw [← HQT.out.1, ← HQT.out.2] at this; exact this)
        have HMT : Hid (Met2 Z b d l r q q) := Lib.hid (fun i h1 h2 => by omega)
        clear hs0 hs3 hrow HX HAC h3 h4 HGo HAo HCU HM HSo HRo HM3 g1 g2 g3 g4
        go_wp2_with fail
        go_loopw [15] (fun i wr => ∃ (x m' : Nat) (b' : Nat → Nat), q ≤ x ∧ i = .int .i64 x ∧ x ≤ q + t ∧ m' ≤ m + (x - q) ∧ Hid (GH wr g p bk (.slice (some ⟨R, 0, none⟩) W W) b') ∧ Hid (Arr wr 5 R (rowY (fun j => ((gr Z W d l j : Nat) : Int)) W r)) ∧ Hid (Mod (fun k => k = bk ∨ k = R) w2 wr) ∧ Hid (Cn b' d l m') ∧ Hid (Met2 Z b' d l r q x)) (fun i _ => q + t + 1 - (intOf i).toNat)
        case atStart => exact ⟨q, m, b, Nat.le_refl _, rfl, by omega, by omega, HG3, HRW, HMW, HC, HMT⟩
        case round =>
          obtain ⟨wu, hwu⟩ : ∃ wu, wu = wr := ⟨_, rfl⟩
          rw [← hwu] at hrel ⊢
          clear hwu HG3 HRW HMW HC HMT HPO
          obtain ⟨x, m', b', hqx, rfl, hxt, hm', HGu, HRu, HMu, HCu, HTu⟩ := hrel
          by_cases hlt2 : x < t
          · have hx0 : (0 : Int) ≤ (x : Int) := by omega
            have hx1 : (x : Int) < (t : Int) := by omega
            have hx2 : (x : Int) < (W : Int) := by omega
            have cr := HRu.out.cell? x
            have hg := gr_at (Z := Z) (W := W) (d := d) (l := l) (y := r) (x := x) (by omega)
            rw [show (rowY (fun j => ((gr Z W d l j : Nat) : Int)) W r)[x]? = some (.int .u8 ((gy Z d l r x : Nat) : Int)) from by
              simp [rowY, show x < W from by omega, hg, gy]] at cr
            have h256 := gy_256 (Z := Z) (y := r) (x := x) HDL.out
            have hk8 : gy Z d l r x / 8 = d / 8 ∨ gy Z d l r x / 8 = l / 8 := by unfold gy; split <;> simp
            obtain ⟨k, hk⟩ : ∃ k, k = gy Z d l r x / 8 := ⟨_, rfl⟩
            have HC2 : Hid (Cn (upN b' k) d l (m' + 1)) := Lib.hid (HCu.out.up (by rw [hk]; exact hk8))
            have HT2 : Hid (Met2 Z (upN b' k) d l r q (x + 1)) := Lib.hid (by rw [hk]; exact HTu.out.up)
            obtain ⟨v, hv⟩ : ∃ v, v = gy Z d l r x := ⟨_, rfl⟩
            rw [← hv] at cr h256 hk
            have ea := u8_and_255 v h256
            have es : (v : Int) / 8 = (k : Int) := by omega
            have es2 : (v : Int) / 2 ^ 3 = (k : Int) := by omega
            have hk32 : k < 32 := by omega
            have hk0 : (0 : Int) ≤ (k : Int) := by omega
            have hk1 : (k : Int) < 32 := by omega
            have c2 := HGu.out.c2
            have ck := HGu.out.hb.cell? k
            unfold cntV at ck
            rw [rowV_get _ _ _ hk32] at ck
            have fk := HGu.out.hb.free k
            have hbk := HCu.out.2 k
            obtain ⟨n, hn⟩ : ∃ n, n = b' k := ⟨_, rfl⟩
            rw [← hn] at ck hbk
            have en : IntKind.i64.wrap ((n : Int) + 1) = (n : Int) + 1 := by rw [IntKind.wrap_i64]; omega
            have hmm := Mod.set1 wu bk k (.int .i64 ((n : Int) + 1))
            have HG4 : Hid (GH (wu.setCell ⟨bk, k, none⟩ (.int .i64 ((n : Int) + 1))) g p bk (.slice (some ⟨R, 0, none⟩) W W) (upN b' k)) := Lib.hid ⟨HGu.out.hg.mod hmm HGu.out.ne, by
              have := HGu.out.hb.set_ k (.int .i64 ((n : Int) + 1))
              unfold cntV at this ⊢
              rw [rowV_set (g := fun j => .int .i64 ((upN b' k j : Nat) : Int)) (fun j hj => by unfold upN; by_cases e : j = k <;> simp [e, hn])] at this
              exact this, HGu.out.ne⟩
            have HR4 : Hid (Arr (wu.setCell ⟨bk, k, none⟩ (.int .i64 ((n : Int) + 1))) 5 R (rowY (fun j => ((gr Z W d l j : Nat) : Int)) W r)) := Lib.hid (HRu.out.mod hmm HRP.out.2.1)
            have HM4 : Hid (Mod (fun k => k = bk ∨ k = R) w2 (wu.setCell ⟨bk, k, none⟩ (.int .i64 ((n : Int) + 1)))) := Lib.hid (HMu.out.trans (hmm.mono (fun k _ hk => .inl hk)))
            clear hg hk8 hv hk hn hmm HGu HRu HMu HCu HTu
            go_wp2_with fail
            go_roundw
            case rel => exact ⟨x + 1, m' + 1, _, by omega, by go_num, by omega, by omega, HG4, HR4, HM4, HC2, HT2⟩
            case measure => simp [intOf]; omega
          · have hx1 : ¬ (x : Int) < (t : Int) := by omega
            have hx2 : decide ((x : Int) < (t : Int)) = false := by simpa using hx1
            have HPO2 : Hid (1 < y + 1 → 0 < b' (d / 8) ∧ 0 < b' (l / 8)) := Lib.hid (fun _ => by
              obtain ⟨i, k1, k2, k3⟩ := HBO.out
              refine Met2.both (q := q) (t := t) (Z := Z) (y := r) (fun i h1 h2 => HTu.out i h1 (by omega)) HBO.out)
            have hmb : m' ≤ m + 200 := by omega
            clear hx1
            go_wp2_with fail
            go_roundw
            case rel => exact ⟨y + 1, m', b', _, by omega, by omega, by go_num, by omega, HGu, HRu, Lib.hid (by simp [rowY]), HMu, HCu, HPO2⟩
            case measure => simp [intOf]; omega
    · obtain rfl : y = 5 := by omega
      have hrd : Rd wo (some ⟨bk, 0, none⟩) 32 (fun j => .int .i64 (b j : Nat)) := fun _ => ⟨bk, 0, rfl, HGo.out.hb.lt, fun j hj => by
        have := HGo.out.hb.cell? j
        unfold cntV at this
        rw [rowV_get _ _ _ hj] at this
        rw [Nat.zero_add]; exact this⟩
      have htwo : Two b (d / 8) (l / 8) := by
        have k1 := HDL.out.1
        have k2 := HDL.out.2
        have k3 := HPO.out (by omega)
        exact ⟨by omega, by omega, k3.1, k3.2, HC.out.1⟩
      have HTWO := Lib.hid htwo
      have HMA3 : Hid (Mod (GB g bk) w wo) := Lib.hid (HMA2.out.then HM.out (fun i hi hh => by
        rcases hh with hh | hh
        · exact .inr hh
        · have := HRBIG.out; omega))
      have HES := Lib.hid ((estimate b (fun x _ => by have := HC.out.2 x; omega) (.pointer (some ⟨g, 0, none⟩)) (some ⟨bk, 0, none⟩) 32 wo hrd).mono (R' := fun e w' => ∃ bp : Nat, e = .returned (.tuple #[.int .i64 bp, .nilIface]) ∧ Hid (d < bp ∧ bp ≤ l) ∧ Below wo.heap.size wo w') (by
        rintro e w' ⟨hb, h4⟩
        rcases h4 with ⟨_, rfl⟩ | ⟨h4, _⟩
        · exact ⟨bound b * 8, by simp, Lib.hid (bound_parts htwo), hb⟩
        · rw [(two_bound htwo).1] at h4; cases h4))
      have HBMo : Hid (BM wo pm gm (List.replicate ((W + 31) / 32 * H) 0) W H) := Lib.hid (HBM2.out.mod HM.out (by have := HRP.out; have := HPM.out; rintro (e | e) <;> omega) (by have := HRP.out; have := HPM.out; rintro (e | e) <;> omega))
      clear hrd htwo HC HPO HM HGo HAo HBM2 HS2 HR2 hm HCU
      go_wp2_with fail
      refine HES.out.mono ?_
      rintro e w4 ⟨bp, rfl, HPT, hb4⟩
      have HMA4 : Hid (Mod (GB g bk) w w4) := Lib.hid (HMA3.out.trans (Mod.of_below hb4))
      have HS4 := Lib.hid (SrcIs.below HSo.out hb4)
      have HR4 := Lib.hid (HRo.out.below hb4)
      have HBM4 := Lib.hid (HBMo.out.below hb4 HBMo.out.plt HBMo.out.glt)
      have HMW := Lib.hid (matrix_whole p A N c W H 0 0 w4 HS4.out)
      have h5 := fun X => m_matrix p X
      clear hb4 HES HSo HRo HBMo HTWO
      go_wp2_with fail
      refine HMW.out.mono ?_
      rintro e w5 ⟨rfl, rfl⟩
      have HS0 : Hid (∀ x y, x < W → y < H → mb (List.replicate ((W + 31) / 32 * H) 0) W x y = (decide (y < 0 ∨ y = 0 ∧ x < 0) && Z y x)) := Lib.hid (fun x y _ _ => by rw [mb_zeros]; simp)
      clear HMW h5
      go_wp2_with fail
      go_loopw [19] (fun i wr => ∃ (k : Nat) (ws' : List Nat), k ≤ H ∧ i = .int .i64 k ∧ Hid (BM wr pm gm ws' W H) ∧ Hid (Mod (· = gm) w4 wr) ∧ Hid (∀ x y, x < W → y < H → mb ws' W x y = (decide (y < k ∨ y = k ∧ x < 0) && Z y x))) (fun i _ => H - (intOf i).toNat)
      case atStart => exact ⟨0, _, by omega, rfl, HBM4, Lib.hid (Mod.refl _), HS0⟩
      case round =>
        obtain ⟨wa, hwa⟩ : ∃ wa, wa = wr := ⟨_, rfl⟩
        rw [← hwa] at hrel ⊢
        clear hwa HBM4 HS0
        obtain ⟨k, ws1, hk, rfl, HBk, HMk, HSk⟩ := hrel
        by_cases hltk : k < H
        · have hk0 : (0 : Int) ≤ (k : Int) := by omega
          have hk1 : (k : Int) < (H : Int) := by omega
          obtain ⟨o, ho⟩ : ∃ o, o = k * W := ⟨_, rfl⟩
          have e1 : (k : Int) * (W : Int) = (o : Int) := by rw [ho]; simp
          have hob : o ≤ 200 * 200 := by rw [ho]; exact Nat.mul_le_mul (by omega) hW
          have e2 : IntKind.i64.wrap (o : Int) = (o : Int) := by rw [IntKind.wrap_i64]; omega
          have HO := Lib.hid ho
          have hoN : o + W ≤ N := by
            have q1 : (k + 1) * W ≤ H * W := Nat.mul_le_mul_right _ hltk
            rw [Nat.add_mul, Nat.one_mul, ← ho, Nat.mul_comm H W, ← HNN.out] at q1
            exact q1
          clear ho
          go_wp2_with fail
          go_loopw [21] (fun i wr => ∃ (j : Nat) (ws' : List Nat), j ≤ W ∧ i = .int .i64 j ∧ Hid (BM wr pm gm ws' W H) ∧ Hid (Mod (· = gm) w4 wr) ∧ Hid (∀ x y, x < W → y < H → mb ws' W x y = (decide (y < k ∨ y = k ∧ x < j) && Z y x))) (fun i _ => W - (intOf i).toNat)
          case atStart => exact ⟨0, ws1, by omega, rfl, HBk, HMk, HSk⟩
          case round =>
            obtain ⟨wu, hwu⟩ : ∃ wu, wu = wr := ⟨_, rfl⟩
            rw [← hwu] at hrel ⊢
            clear hwu HBk HMk HSk
            obtain ⟨j, ws2, hj, rfl, HBj, HMj, HSj⟩ := hrel
            by_cases hjl : j < W
            · have hj0 : (0 : Int) ≤ (j : Int) := by omega
              have hj1 : (j : Int) < (W : Int) := by omega
              obtain ⟨ix, hix⟩ : ∃ ix, ix = o + j := ⟨_, rfl⟩
              have e3 : IntKind.i64.wrap ((o : Int) + (j : Int)) = (ix : Int) := by rw [IntKind.wrap_i64]; omega
              have hix0 : (0 : Int) ≤ (ix : Int) := by omega
              have hix1 : (ix : Int) < (N : Int) := by omega
              obtain ⟨ab, ao, rfl, hab, hac⟩ := HR4.out (by omega)
              have hg := gr_at (Z := Z) (W := W) (d := d) (l := l) (y := k) (x := j) hjl
              rw [← HO.out, ← hix] at hg
              have cx := (World.cell?_of_block (w := w4) (a := ⟨ab, ao + ix, none⟩) (HMj.out.block ab hab (by
                have q1 := HPM.out
                have q2 := HAL.out _ rfl (by omega)
                dsimp only at q2
                omega))).trans (hac ix (by omega))
              dsimp only at cx
              rw [hg] at cx
              have h256 : (if Z k j then d else l) < 256 := by have := HDL.out.1; have := HDL.out.2; split <;> omega
              obtain ⟨v, hv⟩ : ∃ v, v = (if Z k j then d else l) := ⟨_, rfl⟩
              rw [← hv] at cx h256
              have ea := u8_and_255 v h256
              have hvb : Z k j = decide (v < bp) := by
                have := HPT.out
                rw [hv]
                cases Z k j <;> simp <;> omega
              cases hz : Z k j with
              | true =>
                have HV := Lib.hid hz
                have hvl : v < bp := by rw [hz] at hvb; simpa using hvb.symm
                have q5 : (v : Int) < (bp : Int) := by omega
                have HST := Lib.hid (bm_set (j : Int) (k : Int) j k rfl rfl pm gm W H ws2 wu HBj.out hjl hltk (by omega) (by omega))
                have hlen := HBj.out.len
                have hql : k * ((W + 31) / 32) + j / 32 < ws2.length := by rw [hlen]; exact at_lt hjl hltk
                have hx := HBj.out.lt _ (nth_mem hql)
                have h2p : 2 ^ (j % 32) < 2 ^ 32 := Nat.pow_lt_pow_right (by decide) (by omega)
                have hnew : nth ws2 (k * ((W + 31) / 32) + j / 32) ||| 2 ^ (j % 32) < 4294967296 := by
                  have := Nat.or_lt_two_pow (n := 32) (show nth ws2 (k * ((W + 31) / 32) + j / 32) < 2 ^ 32 by omega) h2p; omega
                have hbm2 := HBj.out.set_ (k * ((W + 31) / 32) + j / 32) (nth ws2 (k * ((W + 31) / 32) + j / 32) ||| 2 ^ (j % 32)) hnew
                have HS3 : Hid (∀ x y, x < W → y < H → mb (ws2.set (k * ((W + 31) / 32) + j / 32) (nth ws2 (k * ((W + 31) / 32) + j / 32) ||| 2 ^ (j % 32))) W x y = (decide (y < k ∨ y = k ∧ x < j + 1) && Z y x)) := Lib.hid (fun x y hx hy => by
                  rw [mb_set ws2 W H x y j k hlen hjl hltk hx, HSj.out x y hx hy]
                  by_cases e : x = j ∧ y = k
                  · obtain ⟨rfl, rfl⟩ := e
                    rw [HV.out]; simp
                  · have e1 : decide (x = j ∧ y = k) = false := by simpa using e
                    rw [e1, Bool.or_false]
                    congr 1
                    rw [Bool.eq_iff_iff]; simp only [decide_eq_true_eq]; omega)
                have HM3 : Hid (Mod (· = gm) w4 (wu.setCell ⟨gm, k * ((W + 31) / 32) + j / 32, none⟩ (.int .u32 ((nth ws2 (k * ((W + 31) / 32) + j / 32) ||| 2 ^ (j % 32) : Nat) : Int)))) := Lib.hid (HMj.out.trans (Mod.set1 wu gm _ _))
                have HBM3 := Lib.hid hbm2
                clear hz hbm2 hnew h2p hx hql hlen HSj HBj HMj hv hvb hac hg hvl hix
                go_wp2_with fail
                refine HST.out.mono ?_
                rintro e w9 ⟨rfl, rfl⟩
                generalize (wu.setCell ⟨gm, k * ((W + 31) / 32) + j / 32, none⟩ (.int .u32 ((nth ws2 (k * ((W + 31) / 32) + j / 32) ||| 2 ^ (j % 32) : Nat) : Int))) = w9 at *
                generalize ws2.set (k * ((W + 31) / 32) + j / 32) (nth ws2 (k * ((W + 31) / 32) + j / 32) ||| 2 ^ (j % 32)) = ws9 at *
                clear HST cx
                go_wp2_with fail
                go_roundw
                case rel => exact ⟨j + 1, ws9, by omega, by go_num, HBM3, HM3, HS3⟩
                case measure => simp [intOf]; omega
              | false =>
                have hvl : ¬ v < bp := by rw [hz] at hvb; simpa using hvb.symm
                have q5 : decide ((v : Int) < (bp : Int)) = false := by simp; omega
                have q6 : decide (v < bp) = false := by simp; omega
                have HS3 : Hid (∀ x y, x < W → y < H → mb ws2 W x y = (decide (y < k ∨ y = k ∧ x < j + 1) && Z y x)) := Lib.hid (fun x y hx hy => by
                  rw [HSj.out x y hx hy]
                  by_cases e : x = j ∧ y = k
                  · obtain ⟨rfl, rfl⟩ := e
                    rw [hz]; simp
                  · congr 1
                    rw [Bool.eq_iff_iff]; simp only [decide_eq_true_eq]; omega)
                clear hz HSj hv hvb hac hg hvl hix
                go_wp2_with fail
                go_roundw
                case rel => exact ⟨j + 1, ws2, by omega, by go_num, HBj, HMj, HS3⟩
                case measure => simp [intOf]; omega
            · obtain rfl : j = W := by omega
              have HS3 : Hid (∀ x y, x < j → y < H → mb ws2 j x y = (decide (y < k + 1 ∨ y = k + 1 ∧ x < 0) && Z y x)) := Lib.hid (fun x y hx hy => by
                rw [HSj.out x y hx hy]; congr 1
                rw [Bool.eq_iff_iff]; simp only [decide_eq_true_eq]; omega)
              clear HSj
              go_wp2_with fail
              go_roundw
              case rel => exact ⟨k + 1, ws2, by omega, by go_num, HBj, HMj, HS3⟩
              case measure => simp [intOf]; omega
        · obtain rfl : k = H := by omega
          have HQ : Hid (∀ x y, x < W → y < k → mb ws1 W x y = Z y x) := Lib.hid (fun x y hx hy => by rw [HSk.out x y hx hy]; simp [hy])
          have HMA5 : Hid (Mod (GB g bk) w wa) := Lib.hid (HMA4.out.then HMk.out (fun i hi hh => by have := HPM.out; omega))
          clear HSk
          go_wp2_with fail
          go_ret2
          exact ⟨pm, gm, ws1, rfl, HBk, HQ, HMA5⟩
end Go.Proofs.Ythgnmcofclndlaa
