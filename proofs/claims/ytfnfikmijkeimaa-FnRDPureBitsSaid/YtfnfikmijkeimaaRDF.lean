/-
  Data Matrix: the bits of a placement, walked: DMBits. No condition beyond the bounds that each theorem states.
-/
import Derived.Test.YtfnfikmijkeimaaRDC
import Derived.Test.YtfnfikmijkeimaaRDE
namespace Go.Proofs.Ytfnfikmijkeimaa
open Go.RowKit Go.Qz Go.Qz.RD
set_option linter.unusedVariables false

/-- Rows of bools, some. -/
def BitsPost (R C : Nat) (w : World) (e : Ending) (w' : World) : Prop := ∃ A cap f, e = .returned (.slice A R cap) ∧ Hid (R ≤ cap ∧ cap ≤ maxLen ∧ Rows2 w' A R C f) ∧ Below w.heap.size w w'
theorem mapRows_below {w w' : World} {hb R C cap : Nat} {bl : Nat → Nat} {f : Nat → Nat → Int} (h : MapRows w hb R C cap bl f) (hbl : Below w.heap.size w w') : MapRows w' hb R C cap bl f :=
  ⟨h.1, Nat.lt_of_lt_of_le h.2.1 hbl.size, fun r hr => (hbl.cell (p := ⟨hb, r, none⟩) h.2.1).trans (h.2.2.1 r hr), fun r hr => (h.2.2.2.1 r hr).below hbl (h.2.2.2.1 r hr).lt, h.2.2.2.2⟩
def updB (g : Nat → Bool) (j : Nat) (b : Bool) : Nat → Bool := fun c => if c = j then b else g c
theorem rowB_set {w : World} {B C j : Nat} {g : Nat → Bool} (h : Arr w 4 B (rowV (fun c => .bool (g c)) C)) (b : Bool) : Arr (w.setCell ⟨B, j, none⟩ (.bool b)) 4 B (rowV (fun c => .bool (updB g j b c)) C) := by
  have := h.set_ j (.bool b)
  rw [rowV_set (g := fun c => .bool (updB g j b c)) (fun i hi => by unfold updB; by_cases e : i = j <;> simp [e])] at this
  exact this

set_option maxRecDepth 100000 in
set_option maxHeartbeats 16000000 in
theorem dmBits (R C n c : Nat) (hc : Cls R C) (hn : n ≤ 100000) (A : Option Addr) (raw : Nat → Nat) (w : World) (hr : Rd w A n (fun j => .int .u8 (raw j : Nat))) :
    Calls Try.prog 10 #[.slice A n c, .int .i64 R, .int .i64 C] w (BitsPost R C w) := by
  have r0 : 6 ≤ R := by have := hc.r0; omega
  have r1 : R ≤ 132 := by have := hc.r1; omega
  have c0 : 8 ≤ C := by have := hc.c0; omega
  have c1 : C ≤ 132 := by have := hc.c1; omega
  have HR := Lib.hid hr
  have HM := Lib.hid (dmMap R C hc w)
  have hmk := fun X => run_make1 (P := Try.prog) 40 4 (.bool false) 1 Try.underlying40 Try.infoBool' rfl (by decide) C (by omega) .i64 .i64 C rfl X
  clear hr hc
  go_enter Try.func10, Try.ntmps10
  go_wp2_with fail
  refine HM.out.mono ?_
  rintro e w1 ⟨hb, cap, bl, f, rfl, HMR, hbel⟩
  have HB1 := Lib.hid hbel
  have HP0 : Hid (Pile w1 w1.heap.size (.slice none 0 0) 0 C (fun _ => undef) (fun _ _ => false)) := Lib.hid (Pile.zero _ _ _ _)
  obtain ⟨E, hE⟩ : ∃ E, E = w1.heap.size := ⟨_, rfl⟩
  rw [← hE] at HP0
  have HE := Lib.hid hE
  have HPE : Hid (E ≤ w1.heap.size) := Lib.hid (by omega)
  clear hbel HM hE
  go_wp2_with fail
  go_loopw [7, 17] (fun v i wr => ∃ (k : Nat) (V : Nat → Value) (F : Nat → Nat → Bool), k ≤ R ∧ i = .int .i64 k ∧ Hid (Pile wr E v k C V F) ∧ Hid (Below E w1 wr)) (fun _ i _ => R - (intOf i).toNat)
  case atStart => exact ⟨0, _, _, by omega, rfl, HP0, Lib.hid (Below.refl _ _)⟩
  case round =>
    obtain ⟨wo, hwo⟩ : ∃ wo, wo = wr := ⟨_, rfl⟩
    rw [← hwo] at hrel ⊢
    clear hwo
    obtain ⟨v, hv⟩ : ∃ v, v = u7 := ⟨_, rfl⟩
    rw [← hv] at hrel ⊢
    clear hv
    obtain ⟨k, V, F, hk, rfl, HP, HB⟩ := hrel
    clear HP0
    by_cases hlt : k < R
    · have hk0 : (0 : Int) ≤ (k : Int) := by omega
      have hk1 : (k : Int) < (R : Int) := by omega
      obtain ⟨B, hB⟩ : ∃ B, B = wo.heap.size := ⟨_, rfl⟩
      obtain ⟨W1, hW1⟩ : ∃ W1, W1 = wo.alloc (.cells (zeros C (.bool false)) 4) := ⟨_, rfl⟩
      have hb1 : Below wo.heap.size wo W1 := by rw [hW1]; exact (Below.refl _ _).alloc (Nat.le_refl _) _
      have ha1 : Arr W1 4 B (rowV (fun c => .bool ((fun _ => false) c)) C) := by
        rw [hW1, hB, rowV_const]; exact Arr.new wo _ _
      have HB1' := Lib.hid hb1
      have HA1 := Lib.hid ha1
      have HBE := Lib.hid hB
      have HW1 := Lib.hid hW1
      have HEB : Hid (E ≤ B ∧ ∀ r, v.ownBlock = some r → r < B) := Lib.hid ⟨by have := HB.out.size; have := HPE.out; omega, fun r h => by have := (HP.out.own.lt r h).2; omega⟩
      clear hb1 ha1 hW1
      go_wp2_with fail
      rw [← hB, ← HW1.out]
      clear hB
      go_loopw [23] (fun i wr' => ∃ (j : Nat) (g : Nat → Bool), j ≤ C ∧ i = .int .i64 j ∧ Hid (Arr wr' 4 B (rowV (fun c => .bool (g c)) C)) ∧ Hid (Mod (· = B) W1 wr')) (fun i _ => C - (intOf i).toNat)
      case atStart => exact ⟨0, _, by omega, rfl, HA1, Lib.hid (Mod.refl _)⟩
      case round =>
        obtain ⟨wu, hwu⟩ : ∃ wu, wu = wr := ⟨_, rfl⟩
        rw [← hwu] at hrel ⊢
        clear hwu
        obtain ⟨j, g, hj, rfl, HA, HM⟩ := hrel
        have hbu : Below wo.heap.size wo wu := HB1'.out.trans ⟨HM.out.os, HM.out.tape, HM.out.output, HM.out.size, fun i hi => HM.out.block i (by have := HB1'.out.size; omega) (by have := HBE.out; omega)⟩
        have HBU := Lib.hid hbu
        clear hbu
        by_cases hlt2 : j < C
        · have hj0 : (0 : Int) ≤ (j : Int) := by omega
          have hj1 : (j : Int) < (C : Int) := by omega
          have cj := HA.out.cell? j
          rw [rowV_get _ _ _ hlt2] at cj
          have fj := HA.out.free j
          obtain ⟨m1, m2, m3, m4, m5⟩ := mapRows_below HMR.out ((HB.out.mono (by have := HE.out; omega)).trans (HBU.out.mono (by have := HB.out.size; have := HE.out; omega)))
          have d1 := m3 k hlt
          have d2 := (m4 k hlt).cell? j
          rw [rowV_get _ _ _ hlt2] at d2
          have d3 := m5 k j
          obtain ⟨x, hx⟩ : ∃ x, x = f k j := ⟨_, rfl⟩
          rw [← hx] at d2 d3
          have HA2 : Hid (∀ b : Bool, Hid (Arr (wu.setCell ⟨B, j, none⟩ (.bool b)) 4 B (rowV (fun c => .bool (updB g j b c)) C))) := Lib.hid (fun b => Lib.hid (rowB_set HA.out b))
          have HM2 : Hid (∀ b : Bool, Hid (Mod (· = B) W1 (wu.setCell ⟨B, j, none⟩ (.bool b)))) := Lib.hid (fun b => Lib.hid (HM.out.trans (Mod.set1 wu B j _)))
          have HRD : Hid (Rd wu A n (fun j => .int .u8 (raw j : Nat))) := Lib.hid ((HR.out.below HB1.out).below ((HB.out.mono (by have := HE.out; omega)).trans (HBU.out.mono (by have := HB.out.size; have := HE.out; omega))))
          clear m1 m2 m3 m4 m5 hx
          by_cases hx0 : x < 0
          · have q1 : decide (x < 0) = true := by simpa using hx0
            have w1' : IntKind.i64.wrap ((k : Int) - (R : Int)) = (k : Int) - (R : Int) := by rw [IntKind.wrap_i64]; omega
            have w2' : IntKind.i64.wrap ((j : Int) - (C : Int)) = (j : Int) - (C : Int) := by rw [IntKind.wrap_i64]; omega
            go_wp2_with fail
            go_roundw
            case rel => exact ⟨j + 1, _, by omega, by go_num, HA2.out _, HM2.out _⟩
            case measure => simp [intOf]; omega
          · have q1 : decide (x < 0) = false := by simpa using hx0
            obtain ⟨y, hy⟩ : ∃ y : Nat, x = y := ⟨x.toNat, by omega⟩
            subst hy
            obtain ⟨z, hz⟩ : ∃ z : Nat, z = y / 8 := ⟨_, rfl⟩
            have e1 : (y : Int).tdiv 8 = (z : Int) := by rw [Int.tdiv_eq_ediv_of_nonneg (by omega)]; omega
            have w1' : IntKind.i64.wrap (z : Int) = (z : Int) := by rw [IntKind.wrap_i64]; omega
            by_cases hzn : z < n
            · have q2 : decide ((z : Int) < (n : Int)) = true := by simp; omega
              obtain ⟨rb, ro, rfl, hrb, hrc⟩ := HRD.out (by omega)
              have cz := hrc z hzn
              obtain ⟨q, hq⟩ : ∃ q : Nat, q = y % 8 := ⟨_, rfl⟩
              have e2 : (y : Int).tmod 8 = (q : Int) := by rw [Int.tmod_eq_emod_of_nonneg (by omega)]; omega
              have hz0 : (0 : Int) ≤ (z : Int) := by omega
              have hz1 : (z : Int) < (n : Int) := by omega
              have hq8 : q < 8 := by omega
              obtain ⟨t, ht⟩ : ∃ t : Nat, t = 7 - q := ⟨_, rfl⟩
              have e3 : (7 : Int) - (q : Int) = (t : Int) := by omega
              have w3' : IntKind.i64.wrap ((7 : Int) - (q : Int)) = (t : Int) := by rw [e3, IntKind.wrap_i64]; omega
              have ht0 : (0 : Int) ≤ (t : Int) := by omega
              have ht1 : (t : Int) < 8 := by omega
              clear hq hz hrc HRD HA HM hx0
              dsimp only at cz
              go_wp2_with fail
              go_roundw
              case rel => exact ⟨j + 1, _, by omega, by go_num, HA2.out _, HM2.out _⟩
              case measure => simp [intOf]; omega
            · have q2 : decide ((z : Int) < (n : Int)) = false := by simp; omega
              have HA3 : Hid (Arr wu 4 B (rowV (fun c => .bool (g c)) C)) := HA
              have HM3 : Hid (Mod (· = B) W1 wu) := HM
              clear HA2 HM2
              go_wp2_with fail
              go_roundw
              case rel => exact ⟨j + 1, _, by omega, by go_num, HA3, HM3⟩
              case measure => simp [intOf]; omega
        · obtain rfl : j = C := by omega
          have HP2 : Hid (Pile wu E v k j V (fun r c => if r = k then g c else F r c)) := Lib.hid ((HP.out.below HBU.out).congr (fun r c hr hc => by rw [if_neg (by omega)]))
          have hbw : Below E w1 wu := HB.out.trans (HBU.out.mono (by have := HB.out.size; have := HPE.out; omega))
          have HBW := Lib.hid hbw
          have HSZ : Hid (E ≤ wu.heap.size) := Lib.hid (by have := hbw.size; have := HPE.out; omega)
          have HPP : Hid (∀ (v' : Value) (w' : World), w'.ownsRow E 40 1 v' (k + 1) ((List.range k).map V ++ [.slice (some ⟨B, 0, none⟩) j j]) → wu.grownBy w' v.ownBlock → (v'.ownBlock = v.ownBlock ∨ v'.ownBlock = some (wu.heap.size + 1)) → Below E wu w' →
              Hid (Pile w' E v' (k + 1) j (fun r => if r = k then .slice (some ⟨B, 0, none⟩) j j else V r) (fun r c => if r = k then g c else F r c)) ∧ Hid (Below E w1 w')) := Lib.hid (fun v' w' hown hg hl hb' =>
            ⟨Lib.hid (HP2.out.push HEB.out.1 HA.out.lt (fun e => by have := HEB.out.2 B e; omega) (Nat.le_refl _) (fun c hc => by rw [HA.out.cell?, rowV_get _ _ _ hc, if_pos rfl]) hown hg hl), Lib.hid (HBW.out.trans hb')⟩)
          clear HA HM hbw
          go_wp2_with (at_builtin; refine wpList_pushAt _ _ 28 E 40 (.slice none 0 0) 24 v k ((List.range k).map V) (.slice (some ⟨B, 0, none⟩) j j) rfl rfl rfl rfl Try.underlying28 Try.infoBools rfl rfl (by decide) HP2.out.own (by omega) HSZ.out ?_)
          intro v' w' hown' hg' hb' hl'
          obtain ⟨g1, g2⟩ := HPP.out v' w' hown' hg' hl' hb'
          clear hown' hg' hb' hl' HPP
          go_wp2_with fail
          go_roundw
          case rel => exact ⟨k + 1, _, _, by omega, by go_num, g1, g2⟩
          case measure => simp [intOf]; omega
    · obtain rfl : k = R := by omega
      obtain ⟨A1, c1', rfl, h1, h2, h3⟩ := HP.out.rows
      have HQ : Hid (k ≤ c1' ∧ c1' ≤ maxLen ∧ Rows2 wo A1 k C F) := Lib.hid ⟨h1, h2, h3⟩
      have HBB : Hid (Below w.heap.size w wo) := Lib.hid (HB1.out.trans (HB.out.mono (by have := HE.out; have := HB1.out.size; omega)))
      clear h1 h2 h3
      go_wp2_with fail
      go_ret
      exact ⟨A1, c1', F, rfl, HQ, HBB.out⟩
end Go.Proofs.Ytfnfikmijkeimaa
