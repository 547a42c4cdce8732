/-
  Data Matrix: the modules of a symbol, walked: DMSymbol. No condition beyond the bounds that the theorem states.
-/
import Derived.Test.YtfnfikmijkeimaaRDG
import Derived.Deep.RegionHeld3
namespace Go.Proofs.Ytfnfikmijkeimaa
open Go.RowKit Go.Qz Go.Qz.RD
set_option linter.unusedVariables false

def SZ (W : World) (E : Nat) (s : DS) : Prop := W.cell? ⟨E, 0, none⟩ = some (.int .i64 s.rows) ∧ W.cell? ⟨E, 1, none⟩ = some (.int .i64 s.cols) ∧ W.cell? ⟨E, 2, none⟩ = some (.int .i64 s.rr) ∧ W.cell? ⟨E, 3, none⟩ = some (.int .i64 s.rc) ∧ W.cell? ⟨E, 4, none⟩ = some (.int .i64 s.dt) ∧ W.cell? ⟨E, 5, none⟩ = some (.int .i64 s.er) ∧ W.cell? ⟨E, 6, none⟩ = some (.int .i64 s.bl)
/-- What is asked of a symbol's modules: the upper left one is dark, its neighbour light, the lower right one dark. -/
def Fr (s : DS) (r c : Nat) (b : Bool) : Prop := (r = 0 → c = 0 → b = true) ∧ (r = 0 → c = 1 → b = false) ∧ (r + 1 = s.rows → c + 1 = s.cols → b = true)
def SymPost (s : DS) (w : World) (e : Ending) (w' : World) : Prop := ∃ A cap F, e = .returned (.slice A s.rows cap) ∧ Hid (s.rows ≤ cap ∧ cap ≤ maxLen ∧ Rows2 w' A s.rows s.cols F) ∧ Hid (∀ r c, r < s.rows → c < s.cols → Fr s r c (F r c)) ∧ Below w.heap.size w w'
theorem fr_of {s : DS} (h : SzOk s) {r c : Nat} {d fr : Bool} (hr : r < s.rows) (hc : c < s.cols) (hd : (col : Nat) → col = c → (col % (s.rc + 2) = 0 ∨ r % (s.rr + 2) = s.rr + 1 → fr = true ∧ d = true) ∧ (r % (s.rr + 2) = 0 → col % (s.rc + 2) = 1 → fr = true ∧ d = false)) : (fr = true → Fr s r c d) ∧ (fr = false → ∀ b, Fr s r c b) := by
  have hd := hd c rfl
  have k1 : r = 0 → c = 0 → fr = true ∧ d = true := fun e1 e2 => hd.1 (.inl (by rw [e2]; exact Nat.zero_mod _))
  have k2 : r = 0 → c = 1 → fr = true ∧ d = false := fun e1 e2 => hd.2 (by rw [e1]; exact Nat.zero_mod _) (by rw [e2]; exact Nat.mod_eq_of_lt (by have := h.b0; omega))
  have k3 : r + 1 = s.rows → c + 1 = s.cols → fr = true ∧ d = true := fun e1 _ => hd.1 (.inr (by
    have h1 := h.dr
    have h2 := h.r0
    obtain ⟨q, hq⟩ : ∃ q, q = s.rows / (s.rr + 2) := ⟨_, rfl⟩
    rw [← hq] at h1
    have hq0 : 0 < q := by
      rcases Nat.eq_zero_or_pos q with h | h
      · rw [h] at h1; omega
      · exact h
    obtain ⟨p, rfl⟩ : ∃ p, q = p + 1 := ⟨q - 1, by omega⟩
    rw [Nat.add_mul, Nat.one_mul] at h1
    have e : r = (s.rr + 1) + (s.rr + 2) * p := by rw [Nat.mul_comm (s.rr + 2) p]; omega
    rw [e, Nat.add_mul_mod_self_left]
    exact Nat.mod_eq_of_lt (by omega)))
  exact ⟨fun _ => ⟨fun a b => (k1 a b).2, fun a b => (k2 a b).2, fun a b => (k3 a b).2⟩, fun e b => ⟨fun a b => (by rw [(k1 a b).1] at e; cases e), fun a b => (by rw [(k2 a b).1] at e; cases e), fun a b => (by rw [(k3 a b).1] at e; cases e)⟩⟩

/-- A module that is none of a frame lies in the placement. -/
theorem map_at {q H rr k : Nat} (hH : H = rr + 2) (hk : k < q * H) (h1 : 1 ≤ k % H) (h2 : k % H ≤ rr) : k / H * rr + k % H - 1 < q * rr ∧ k / H * rr ≤ q * rr := by
  have ha : k / H < q := Nat.div_lt_of_lt_mul (by rw [Nat.mul_comm]; exact hk)
  have hb : (k / H + 1) * rr ≤ q * rr := Nat.mul_le_mul_right _ ha
  rw [Nat.add_mul, Nat.one_mul] at hb
  omega
set_option maxRecDepth 100000 in
set_option maxHeartbeats 16000000 in
theorem dmSymbol (s : DS) (h : SzOk s) (n c : Nat) (hn : n ≤ 100000) (A : Option Addr) (raw : Nat → Nat) (w : World) (hr : Rd w A n (fun j => .int .u8 (raw j : Nat))) :
    Calls Try.prog 5 #[dsv s, .slice A n c] w (SymPost s w) := by
  have HR := Lib.hid hr
  have HOK := Lib.hid h
  have hA := Arr.new w 27 (dcells s)
  have hB0 : Below w.heap.size w (w.alloc (.cells (dcells s).toArray 27)) := (Below.refl _ _).alloc (Nat.le_refl _) _
  obtain ⟨E, hE⟩ : ∃ E, E = w.heap.size := ⟨_, rfl⟩
  obtain ⟨W0, hW0⟩ : ∃ W0, W0 = w.alloc (.cells (dcells s).toArray 27) := ⟨_, rfl⟩
  rw [← hW0, ← hE] at hA hB0
  unfold dcells at hW0
  have HA := Lib.hid hA
  have HB0 := Lib.hid hB0
  obtain ⟨MR, hMR⟩ : ∃ m, m = s.rows / (s.rr + 2) * s.rr := ⟨_, rfl⟩
  obtain ⟨MC, hMC⟩ : ∃ m, m = s.cols / (s.rc + 2) * s.rc := ⟨_, rfl⟩
  have hcls := h.cls
  rw [← hMR, ← hMC] at hcls
  have keep : ∀ W W' : World, (SZ W E s ∧ Hid (Below W0.heap.size W0 W)) → Below W.heap.size W W' → SZ W' E s ∧ Hid (Below W0.heap.size W0 W') := fun W W' hW hb => by
    have hB : Below W0.heap.size W0 W' := hW.2.out.trans (hb.mono hW.2.out.size)
    exact ⟨dcellsOf (HA.out.below hB HA.out.lt), Lib.hid hB⟩
  have HX0 := fun (W : World) (hW : SZ W E s ∧ Hid (Below W0.heap.size W0 W)) =>
    (dmMapRows s HOK.out W).mono (R' := fun e w' => e = .returned (.int .i64 MR) ∧ (SZ w' E s ∧ Hid (Below W0.heap.size W0 w'))) (fun e w' hp => ⟨by rw [hMR]; exact hp.1, keep W w' hW hp.2⟩)
  have HY0 := fun (W : World) (hW : SZ W E s ∧ Hid (Below W0.heap.size W0 W)) =>
    (dmMapCols s HOK.out W).mono (R' := fun e w' => e = .returned (.int .i64 MC) ∧ (SZ w' E s ∧ Hid (Below W0.heap.size W0 w'))) (fun e w' hp => ⟨by rw [hMC]; exact hp.1, keep W w' hW hp.2⟩)
  have HZ0 := fun (W : World) (hW : SZ W E s ∧ Hid (Below W0.heap.size W0 W)) =>
    (dmBits MR MC n c hcls hn A raw W ((HR.out.below (by rw [← hE]; exact hB0)).below hW.2.out)).mono (R' := fun e w' => ∃ B cap f, e = .returned (.slice B MR cap) ∧ Hid (Rows2 w' B MR MC f) ∧ (SZ w' E s ∧ Hid (Below W0.heap.size W0 w'))) (by
      rintro e w' ⟨B, cap, f, rfl, h1, h2⟩
      exact ⟨B, cap, f, rfl, Lib.hid h1.out.2.2, keep W w' hW h2⟩)
  unfold dsv at HX0 HY0
  unfold SZ at HX0 HY0 HZ0
  have HX := Lib.hid HX0
  have HY := Lib.hid HY0
  have HZ := Lib.hid HZ0
  have hs0 := keep W0 W0.drew ⟨dcellsOf HA.out, Lib.hid (Below.refl _ _)⟩ (Below.refl _ _).drew
  unfold SZ at hs0
  obtain ⟨c0, c1, c2, c3, c4, c5, c6⟩ := dcellsOf HA.out
  have HE := Lib.hid hE
  have HMR := Lib.hid hMR
  have HMC := Lib.hid hMC
  clear keep h hr hA hB0 hMR hMC hcls HX0 HY0 HZ0
  unfold dsv
  go_enter Try.func5, Try.ntmps5
  go_upto_region 1 with (fail)
  rw [← hE, ← hW0]
  clear hE hW0
  go_region_held3 (fun w' => (w'.cell? ⟨E, 0, none⟩ = some (.int .i64 s.rows) ∧ w'.cell? ⟨E, 1, none⟩ = some (.int .i64 s.cols) ∧ w'.cell? ⟨E, 2, none⟩ = some (.int .i64 s.rr) ∧ w'.cell? ⟨E, 3, none⟩ = some (.int .i64 s.rc) ∧ w'.cell? ⟨E, 4, none⟩ = some (.int .i64 s.dt) ∧ w'.cell? ⟨E, 5, none⟩ = some (.int .i64 s.er) ∧ w'.cell? ⟨E, 6, none⟩ = some (.int .i64 s.bl)) ∧ Hid (Below W0.heap.size W0 w'))
    (first | exact hs0 | exact hs3 | exact hs4 | exact hs5)
    (first | (go_at_call 11; refine (HX.out _ (by assumption)).mono ?_; rintro e w3 ⟨rfl, hs3⟩) | (go_at_call 12; refine (HY.out _ (by assumption)).mono ?_; rintro e w4 ⟨rfl, hs4⟩) | (go_at_call 10; refine (HZ.out _ (by assumption)).mono ?_; rintro e w5 ⟨B, cap, f, rfl, hp5, hs5⟩))
  all_goals
    have HBW : Hid (Below W0.heap.size W0 w5) := hs5.2
    have HRW := hp5
    have HA5 := Lib.hid (HA.out.below HBW.out HA.out.lt)
    have HP0 : Hid (Pile w5 w5.heap.size (.slice none 0 0) 0 s.cols (fun _ => undef) (fun _ _ => false)) := Lib.hid (Pile.zero _ _ _ _)
    obtain ⟨E5, hE5⟩ : ∃ E5, E5 = w5.heap.size := ⟨_, rfl⟩
    rw [← hE5] at HP0
    have HE5 := Lib.hid hE5
    have r1 := HOK.out.r1
    have c1' := HOK.out.c1
    have hmk := fun X => run_make1 (P := Try.prog) 40 4 (.bool false) 1 Try.underlying40 Try.infoBool' rfl (by decide) s.cols (by omega) .i64 .i64 s.cols rfl X
    obtain ⟨c0, c1, c2, c3, c4, c5, c6⟩ := dcellsOf HA5.out
    clear hs0 hs3 hs4 hs5 hp5 HX HY HZ hE5
    go_wp2_with fail
    obtain ⟨rows, hrows⟩ : ∃ rows, rows = s.rows := ⟨_, rfl⟩
    obtain ⟨C, hcols⟩ : ∃ C, C = s.cols := ⟨_, rfl⟩
    rw [← hrows] at r1
    rw [← hcols] at c1' HP0 hmk
    have HRO := Lib.hid hrows
    have HCO := Lib.hid hcols
    rw [← hrows] at ⊢
    clear c0 c1 c2 c3 c4 c5 c6 hrows hcols
    go_loopw [6, 22] (fun v i wr => ∃ (k : Nat) (V : Nat → Value) (F : Nat → Nat → Bool), k ≤ rows ∧ i = .int .i64 k ∧ Hid (Pile wr E5 v k C V F) ∧ Hid (Below E5 w5 wr) ∧ Hid (∀ r c, r < k → c < C → Fr s r c (F r c))) (fun _ i _ => rows - (intOf i).toNat)
    case atStart => exact ⟨0, _, _, by omega, rfl, HP0, Lib.hid (Below.refl _ _), Lib.hid (fun r c hr => by omega)⟩
    case round =>
      obtain ⟨wo, hwo⟩ : ∃ wo, wo = wr := ⟨_, rfl⟩
      rw [← hwo] at hrel ⊢
      clear hwo
      obtain ⟨v, hv⟩ : ∃ v, v = u6 := ⟨_, rfl⟩
      rw [← hv] at hrel ⊢
      clear hv
      obtain ⟨k, V, F, hk, rfl, HP, HB, HF⟩ := hrel
      clear HP0
      by_cases hlt : k < rows
      · have hk0 : (0 : Int) ≤ (k : Int) := by omega
        have hk1 : (k : Int) < (rows : Int) := by omega
        have HBo : Hid (∀ W, Below wo.heap.size wo W → Below E5 w5 W ∧ Below W0.heap.size W0 W ∧ Below w5.heap.size w5 W) := Lib.hid (fun W hb => by
          have q3 := HB.out
          have q4 := HE5.out
          have q5 := HBW.out.size
          have q6 := q3.size
          have q7 : Below E5 w5 W := q3.trans (hb.mono (by omega))
          exact ⟨q7, HBW.out.trans (q7.mono (by omega)), by rw [← q4]; exact q7⟩)
        obtain ⟨B1, hB1⟩ : ∃ B1, B1 = wo.heap.size := ⟨_, rfl⟩
        obtain ⟨W1, hW1⟩ : ∃ W1, W1 = wo.alloc (.cells (zeros C (.bool false)) 4) := ⟨_, rfl⟩
        have hb1 : Below wo.heap.size wo W1 := by rw [hW1]; exact (Below.refl _ _).alloc (Nat.le_refl _) _
        have ha1 : Arr W1 4 B1 (rowV (fun c => .bool ((fun _ => false) c)) C) := by
          rw [hW1, hB1, rowV_const]; exact Arr.new wo _ _
        have HB1' := Lib.hid hb1
        have HA1 := Lib.hid ha1
        have HBE := Lib.hid hB1
        have HW1 := Lib.hid hW1
        have HEB : Hid (E5 ≤ B1 ∧ ∀ r, v.ownBlock = some r → r < B1) := Lib.hid ⟨by have := HB.out.size; have := HE5.out; omega, fun r h => by have := (HP.out.own.lt r h).2; omega⟩
        obtain ⟨d0, d1, d2, d3, d4, d5, d6⟩ := dcellsOf (HA.out.below (HBo.out wo (Below.refl _ _)).2.1 HA.out.lt)
        rw [← HCO.out] at d1
        clear d0 d2 d3 d4 d5 d6
        obtain ⟨x0, x1, x2, x3, x4, x5, x6⟩ := dcellsOf (HA.out.below (HBo.out W1 hb1).2.1 HA.out.lt)
        rw [← HCO.out] at x1
        clear hb1 ha1 x0 x2 x3 x4 x5 x6
        rw [HW1.out] at x1
        go_wp2_with fail
        rw [← hB1, ← HW1.out]
        clear hB1 d1 x1
        go_loopw [30] (fun i wr' => ∃ (j : Nat) (g : Nat → Bool), j ≤ C ∧ i = .int .i64 j ∧ Hid (Arr wr' 4 B1 (rowV (fun c => .bool (g c)) C)) ∧ Hid (Mod (· = B1) W1 wr') ∧ Hid (∀ c, c < j → Fr s k c (g c))) (fun i _ => C - (intOf i).toNat)
        case atStart => exact ⟨0, _, by omega, rfl, HA1, Lib.hid (Mod.refl _), Lib.hid (fun c hc => by omega)⟩
        case round =>
          obtain ⟨wu, hwu⟩ : ∃ wu, wu = wr := ⟨_, rfl⟩
          rw [← hwu] at hrel ⊢
          clear hwu
          obtain ⟨j, g, hj, rfl, HAr, HM, HG⟩ := hrel
          have hbu : Below wo.heap.size wo wu := HB1'.out.trans ⟨HM.out.os, HM.out.tape, HM.out.output, HM.out.size, fun i hi => HM.out.block i (by have := HB1'.out.size; omega) (by have := HBE.out; omega)⟩
          have HBU := Lib.hid hbu
          clear hbu
          by_cases hlt2 : j < C
          · have hj0 : (0 : Int) ≤ (j : Int) := by omega
            have hj1 : (j : Int) < (C : Int) := by omega
            obtain ⟨c0, c1, c2, c3, c4, c5, c6⟩ := dcellsOf (HA.out.below (HBo.out wu HBU.out).2.1 HA.out.lt)
            have HDK0 := dmDark s HOK.out k j (by omega) (by omega) wu
            unfold dsv at HDK0
            have HDK := Lib.hid HDK0
            clear HDK0
            go_wp2_with fail
            refine HDK.out.mono ?_
            rintro e w6 ⟨d, fr, rfl, hb6, HDP⟩
            have HB6 : Hid (Below wo.heap.size wo w6) := Lib.hid (HBU.out.trans (hb6.mono HBU.out.size))
            have HAr6 : Hid (Arr w6 4 B1 (rowV (fun c => .bool (g c)) C)) := Lib.hid (HAr.out.below hb6 HAr.out.lt)
            have HM6 : Hid (Mod (· = B1) W1 w6) := Lib.hid (HM.out.trans (Mod.of_below hb6))
            have hff := fr_of (r := k) (c := j) (d := d) (fr := fr) HOK.out (by have := HRO.out; omega) (by have := HCO.out; omega) (fun col e => by subst e; exact HDP.out.2)
            have HFF := Lib.hid hff
            clear hb6 HAr HM HDK c0 c1 c2 c3 c4 c5 c6 hff
            go_upto_if 41 with (fail)
            go_cut [10] (fun b wx => ∃ bb : Bool, b = .bool bb ∧ Hid (Fr s k j bb) ∧ Hid (Below wo.heap.size wo wx) ∧ Hid (Arr wx 4 B1 (rowV (fun c => .bool (g c)) C)) ∧ Hid (Mod (· = B1) W1 wx))
            case first =>
              cases fr
              · have HF7 := Lib.hid (HFF.out.2 rfl)
                obtain ⟨e1, e2, e3, e4⟩ := HDP.out.1 rfl
                have a1 := HOK.out.a1
                have b1 := HOK.out.b1
                have hdr := HOK.out.dr
                have hdc := HOK.out.dc
                obtain ⟨H, hH⟩ : ∃ H, H = s.rr + 2 := ⟨_, rfl⟩
                obtain ⟨Wd, hWd⟩ : ∃ Wd, Wd = s.rc + 2 := ⟨_, rfl⟩
                rw [← hH] at e1 e2 hdr
                rw [← hWd] at e3 e4 hdc
                have m1 := map_at hH (k := k) (q := s.rows / H) (by rw [← hdr, ← HRO.out]; exact hlt) e1 e2
                have m2 := map_at hWd (k := j) (q := s.cols / Wd) (by rw [← hdc, ← HCO.out]; exact hlt2) e3 e4
                have hmr := HMR.out
                have hmc := HMC.out
                rw [← hH] at hmr
                rw [← hWd] at hmc
                rw [← hmr] at m1
                rw [← hmc] at m2
                have mb : MR ≤ 144 * 30 ∧ MC ≤ 144 * 30 := ⟨by rw [hmr]; exact Nat.mul_le_mul (Nat.le_trans (Nat.div_le_self _ _) HOK.out.r1) a1, by rw [hmc]; exact Nat.mul_le_mul (Nat.le_trans (Nat.div_le_self _ _) HOK.out.c1) b1⟩
                obtain ⟨qa, hqa⟩ : ∃ q, q = k / H := ⟨_, rfl⟩
                obtain ⟨qb, hqb⟩ : ∃ q, q = j / Wd := ⟨_, rfl⟩
                obtain ⟨ra, hra⟩ : ∃ q, q = k % H := ⟨_, rfl⟩
                obtain ⟨rb, hrb⟩ : ∃ q, q = j % Wd := ⟨_, rfl⟩
                rw [← hqa, ← hra] at m1
                rw [← hqb, ← hrb] at m2
                rw [← hra] at e1 e2
                rw [← hrb] at e3 e4
                obtain ⟨pa, hpa⟩ : ∃ p, p = qa * s.rr := ⟨_, rfl⟩
                obtain ⟨pb, hpb⟩ : ∃ p, p = qb * s.rc := ⟨_, rfl⟩
                rw [← hpa] at m1
                rw [← hpb] at m2
                have hqa1 : qa ≤ 144 := by rw [hqa]; exact Nat.le_trans (Nat.div_le_self _ _) (by omega)
                have hqb1 : qb ≤ 144 := by rw [hqb]; exact Nat.le_trans (Nat.div_le_self _ _) (by omega)
                have f1 : IntKind.i64.wrap ((s.rr : Int) + 2) = (H : Int) := by rw [IntKind.wrap_i64]; omega
                have f2 : IntKind.i64.wrap ((s.rc : Int) + 2) = (Wd : Int) := by rw [IntKind.wrap_i64]; omega
                have f3 : (k : Int).tdiv (H : Int) = (qa : Int) := by rw [Int.tdiv_eq_ediv_of_nonneg (by omega), hqa]; simp
                have f4 : (j : Int).tdiv (Wd : Int) = (qb : Int) := by rw [Int.tdiv_eq_ediv_of_nonneg (by omega), hqb]; simp
                have f3' : (k : Int) / (H : Int) = (qa : Int) := by rw [hqa]; simp
                have f4' : (j : Int) / (Wd : Int) = (qb : Int) := by rw [hqb]; simp
                have f5 := fun X => rem_run (k : Int) (H : Int) (ra : Int) (by omega) (by rw [Int.tmod_eq_emod_of_nonneg (by omega), hra]; simp) X
                have f6 := fun X => rem_run (j : Int) (Wd : Int) (rb : Int) (by omega) (by rw [Int.tmod_eq_emod_of_nonneg (by omega), hrb]; simp) X
                have f5' : (k : Int) % (H : Int) = (ra : Int) := by rw [hra]; simp
                have f6' : (j : Int) % (Wd : Int) = (rb : Int) := by rw [hrb]; simp
                have f7 : (qa : Int) * (s.rr : Int) = (pa : Int) := by rw [hpa]; simp
                have f8 : (qb : Int) * (s.rc : Int) = (pb : Int) := by rw [hpb]; simp
                have nH : ¬ (H : Int) = 0 := by omega
                have nW : ¬ (Wd : Int) = 0 := by omega
                have nH2 : ¬ H = 0 := by omega
                have nW2 : ¬ Wd = 0 := by omega
                obtain ⟨ya, hya⟩ : ∃ y : Nat, (pa : Int) + (ra : Int) - 1 = y := ⟨pa + ra - 1, by omega⟩
                obtain ⟨yb, hyb⟩ : ∃ y : Nat, (pb : Int) + (rb : Int) - 1 = y := ⟨pb + rb - 1, by omega⟩
                have g1 : IntKind.i64.wrap (qa : Int) = (qa : Int) := by rw [IntKind.wrap_i64]; omega
                have g2 : IntKind.i64.wrap (qb : Int) = (qb : Int) := by rw [IntKind.wrap_i64]; omega
                have g3 : IntKind.i64.wrap (pa : Int) = (pa : Int) := by rw [IntKind.wrap_i64]; omega
                have g4 : IntKind.i64.wrap (pb : Int) = (pb : Int) := by rw [IntKind.wrap_i64]; omega
                have g5 : IntKind.i64.wrap ((pa : Int) + (ra : Int)) = (pa : Int) + (ra : Int) := by rw [IntKind.wrap_i64]; omega
                have g6 : IntKind.i64.wrap ((pb : Int) + (rb : Int)) = (pb : Int) + (rb : Int) := by rw [IntKind.wrap_i64]; omega
                have g7 : IntKind.i64.wrap (ya : Int) = (ya : Int) := by rw [IntKind.wrap_i64]; omega
                have g8 : IntKind.i64.wrap (yb : Int) = (yb : Int) := by rw [IntKind.wrap_i64]; omega
                have y1 : (ya : Int) < (MR : Int) := by omega
                have y2 : (yb : Int) < (MC : Int) := by omega
                have y3 : (0 : Int) ≤ (ya : Int) := by omega
                have y4 : (0 : Int) ≤ (yb : Int) := by omega
                obtain ⟨Bb, Bo, rfl, hBb, hBr⟩ := (show Rows2 w6 B MR MC f from HRW.out.below (HBo.out w6 HB6.out).2.2) (by omega)
                obtain ⟨Rb, Rc, hrow, hrd⟩ := hBr ya (by omega)
                obtain ⟨Cb, Co, rfl, hCb, hCc⟩ := hrd (by omega)
                have hcell := hCc yb (by omega)
                dsimp only at hcell
                obtain ⟨bv, hbv⟩ : ∃ bv, bv = f ya yb := ⟨_, rfl⟩
                rw [← hbv] at hcell
                obtain ⟨c0, c1, c2, c3, c4, c5, c6⟩ := dcellsOf (HA.out.below (HBo.out w6 HB6.out).2.1 HA.out.lt)
                have HQ1 : Hid (∀ n m, Hid (Below wo.heap.size wo ((w6.drewN n).drewN m)) ∧ Hid (Arr ((w6.drewN n).drewN m) 4 B1 (rowV (fun c => .bool (g c)) C)) ∧ Hid (Mod (· = B1) W1 ((w6.drewN n).drewN m))) := Lib.hid (fun n m => ⟨Lib.hid (Go.Qz.below_drewN (Go.Qz.below_drewN HB6.out n) m), HAr6, Lib.hid ((HM6.out.drewN n).drewN m)⟩)
                clear hBr hrd hCc HDP HFF hH hWd hdr hdc m1 m2 hmr hmc mb hqa hqb hra hrb hpa hpb c0 c1 c4 c5 c6 hbv e1 e2 e3 e4 HAr6 HM6
                go_wp2_with fail
                go_quiet (fail)
                go_wp2_with fail
                go_quiet (fail)
                go_wp2_with fail
                go_meet
                case rel => exact ⟨bv, rfl, Lib.hid (HF7.out bv), HQ1.out _ _⟩
              · have HF7 := Lib.hid (HFF.out.1 rfl)
                clear HDP HFF
                go_wp2_with fail
                go_meet
                case rel => exact ⟨d, rfl, HF7, HB6, HAr6, HM6⟩
            case rest =>
              obtain ⟨bb, rfl, HF7, HB7, HAr7, HM7⟩ := hcut
              have cj := HAr7.out.cell? j
              rw [rowV_get _ _ _ hlt2] at cj
              have fj := HAr7.out.free j
              have HA8 : Hid (Arr (wc.setCell ⟨B1, j, none⟩ (.bool bb)) 4 B1 (rowV (fun c => .bool (updB g j bb c)) C)) := Lib.hid (rowB_set HAr7.out bb)
              have HM8 : Hid (Mod (· = B1) W1 (wc.setCell ⟨B1, j, none⟩ (.bool bb))) := Lib.hid (HM7.out.trans (Mod.set1 wc B1 j _))
              have HG8 : Hid (∀ c, c < j + 1 → Fr s k c (updB g j bb c)) := Lib.hid (fun c hc => by
                unfold updB
                by_cases e : c = j
                · rw [if_pos e, e]; exact HF7.out
                · rw [if_neg e]; exact HG.out c (by omega))
              clear HAr7 HM7 HAr6 HM6
              go_wp2_with fail
              go_roundw
              case rel => exact ⟨j + 1, _, by omega, by go_num, HA8, HM8, HG8⟩
              case measure => simp [intOf]; omega
          · obtain rfl : j = C := by omega
            have HP2 : Hid (Pile wu E5 v k j V (fun r c => if r = k then g c else F r c)) := Lib.hid ((HP.out.below HBU.out).congr (fun r c hr hc => by rw [if_neg (by omega)]))
            have HBW2 := Lib.hid (HBo.out wu HBU.out).1
            have HSZ : Hid (E5 ≤ wu.heap.size) := Lib.hid (by have := HBW2.out.size; have := HE5.out; omega)
            have HPP : Hid (∀ (v' : Value) (w' : World), w'.ownsRow E5 40 1 v' (k + 1) ((List.range k).map V ++ [.slice (some ⟨B1, 0, none⟩) j j]) → wu.grownBy w' v.ownBlock → (v'.ownBlock = v.ownBlock ∨ v'.ownBlock = some (wu.heap.size + 1)) → Below E5 wu w' →
                Hid (Pile w' E5 v' (k + 1) j (fun r => if r = k then .slice (some ⟨B1, 0, none⟩) j j else V r) (fun r c => if r = k then g c else F r c)) ∧ Hid (Below E5 w5 w')) := Lib.hid (fun v' w' hown hg hl hb' =>
              ⟨Lib.hid (HP2.out.push HEB.out.1 HAr.out.lt (fun e => by have := HEB.out.2 B1 e; omega) (Nat.le_refl _) (fun c hc => by rw [HAr.out.cell?, rowV_get _ _ _ hc, if_pos rfl]) hown hg hl), Lib.hid (HBW2.out.trans hb')⟩)
            have HF2 : Hid (∀ r c, r < k + 1 → c < j → Fr s r c (if r = k then g c else F r c)) := Lib.hid (fun r c hr hc => by
              by_cases e : r = k
              · rw [if_pos e, e]; exact HG.out c hc
              · rw [if_neg e]; exact HF.out r c (by omega) hc)
            clear HAr HM
            go_wp2_with (at_builtin; refine wpList_pushAt _ _ 28 E5 40 (.slice none 0 0) 24 v k ((List.range k).map V) (.slice (some ⟨B1, 0, none⟩) j j) rfl rfl rfl rfl Try.underlying28 Try.infoBools rfl rfl (by decide) HP2.out.own (by omega) HSZ.out ?_)
            intro v' w' hown' hg' hb' hl'
            obtain ⟨g1, g2⟩ := HPP.out v' w' hown' hg' hl' hb'
            clear hown' hg' hb' hl' HPP
            go_wp2_with fail
            go_roundw
            case rel => exact ⟨k + 1, _, _, by omega, by go_num, g1, g2, HF2⟩
            case measure => simp [intOf]; omega
      · obtain rfl : k = rows := by omega
        obtain ⟨A1, cp, rfl, h1, h2, h3⟩ := HP.out.rows
        have HQ : Hid (k ≤ cp ∧ cp ≤ maxLen ∧ Rows2 wo A1 k C F) := Lib.hid ⟨h1, h2, h3⟩
        have HBB : Hid (Below w.heap.size w wo) := Lib.hid (by
          rw [← HE.out]
          have q1 := HB0.out
          have q2 := HBW.out
          have q3 := HB.out
          have q4 := HE5.out
          have q5 := q1.size
          have q6 := q2.size
          have q7 := HE.out
          exact (q1.trans (q2.mono (by omega))).trans (q3.mono (by omega)))
        clear h1 h2 h3
        go_wp2_with fail
        go_ret
        refine ⟨A1, cp, F, by rw [← HRO.out]; rfl, ?_, ?_, HBB.out⟩
        · rw [← HRO.out, ← HCO.out]; exact HQ
        · rw [← HRO.out, ← HCO.out]; exact HF
end Go.Proofs.Ytfnfikmijkeimaa
