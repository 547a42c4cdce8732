/-
  spec.BICopy, spec.biTurned, walked. No condition beyond the bounds that each theorem states.
-/
import Derived.Test.YtcfcbcjaiplllaaBGV
import Derived.Test.YtcfcbcjaiplllaaBGQ
import Derived.Outline
namespace Go.Proofs.Ytcfcbcjaiplllaa
open Go.RowKit Go.Qz
set_option linter.unusedVariables false

def hdV (R C : Nat → Nat) (W r : Nat) : Value := .slice (some ⟨R r, 0, none⟩) W (C r)
def hdL (R C : Nat → Nat) (W k : Nat) : List Value := (List.range k).map (hdV R C W)
def CopyPost (f : Nat → Nat → Bool) (H W : Nat) (w : World) (e : Ending) (w' : World) : Prop := ∃ G c R C, e = .returned (.slice (some ⟨G, 0, none⟩) H c) ∧ Hid (WR w' w.heap.size G W (· < H) f R C) ∧ Below w.heap.size w w'

set_option maxRecDepth 100000 in
set_option maxHeartbeats 1600000 in
theorem biCopy (H W : Nat) (hH : 0 < H) (hW : 0 < W) (hHl : H < 100000) (hWl : W < 100000) (f : Nat → Nat → Bool) (A : Option Addr) (c : Nat) (w : World) (h : Rows2 w A H W f) :
    Calls Try.prog 43 #[.slice A H c] w (CopyPost f H W w) := by
  obtain ⟨b, off, e, hb, hr⟩ := h hH
  subst e
  have HR := Lib.hid hr
  clear h hr
  go_enter Try.func43, Try.ntmps43
  go_wp2_with fail
  go_loopw [3, 4] (fun v i wr => ∃ (k : Nat) (R C : Nat → Nat), k ≤ H ∧ i = .int .i64 k ∧ Hid (wr.ownsRow w.heap.size 22 1 v k (hdL R C W k)) ∧ Hid (RW wr w.heap.size W (· < k) f R) ∧ Hid (∀ r, r < k → v.ownBlock ≠ some (R r)) ∧ Hid (∀ r, r < k → W ≤ C r ∧ C r ≤ maxLen) ∧ Hid (Below w.heap.size w wr)) (fun _ i _ => H - (intOf i).toNat)
  case atStart => exact ⟨0, fun _ => 0, fun _ => 0, by omega, rfl, Lib.hid (World.ownsRow_nil _ _ _ _), Lib.hid (RW.none _ _ _ _ _), Lib.hid (fun r hr => by omega), Lib.hid (fun r hr => by omega), Lib.hid (Below.refl _ _)⟩
  case round =>
    obtain ⟨k, R, C, hk, rfl, HO, HRW, HNE, HCP, HBE⟩ := hrel
    by_cases hlt : k < H
    · obtain ⟨B, C0, hcell, hrd⟩ := HR.out k hlt
      have hcell2 := (HBE.out.cell (p := ⟨b, off + k, none⟩) hb).trans hcell
      have hrd2 := hrd.below HBE.out
      have hk0 : (0 : Int) ≤ (k : Int) := by omega
      have hk1 : (k : Int) < (H : Int) := by omega
      have HRD := Lib.hid hrd2
      have hbw : b < wr.heap.size := Nat.lt_of_lt_of_le hb HBE.out.size
      have HOWN0 : Hid ((wr.alloc (.cells #[] 4)).ownsRow wr.heap.size 4 1 (.slice (some ⟨wr.heap.size, 0, none⟩) 0 0) 0 []) := Lib.hid (own_make0 wr 4 (.bool false) 0 wr.heap.size (Nat.le_refl _) (by decide))
      have HRDA := Lib.hid (HRD.out.alloc (.cells #[] 4))
      have hWl2 : 0 + W < 1099511627776 := by omega
      clear hcell hrd hrd2
      go_wp2_with (at_builtin; refine wpList_copyTo _ _ 22 wr.heap.size 4 (.bool false) 1 _ 0 [] B W C0 (fun c => .bool (f k c)) rfl rfl rfl rfl Try.underlying22 Try.infoBoolG rfl (fun j _ => rfl) (by decide) HOWN0.out HRDA.out hWl2 (by simp) ?_)
      intro v3 w3 hown3 hgr3 hb3
      obtain ⟨g0, C3, rfl, hg0, hg1, hc1, hc2, hfr, hcl⟩ := own_cells hown3 hW
      have hb03 : Below wr.heap.size wr w3 := ((Below.refl _ _).alloc (Nat.le_refl _) _).trans hb3
      have hu3 := own_below HO.out hb03
      have HU3 := Lib.hid hu3
      have HRW3 := Lib.hid (HRW.out.mod (Mod.of_below (S := fun _ => False) hb03) (fun _ _ h => h))
      have HRW4 := Lib.hid (HRW3.out.add k g0 (· < k + 1) (fun r' => by omega) (by omega) (Nat.le_trans HBE.out.size hg0) hg1 (fun r' hr' e => by have := HRW.out.lt r' hr'; omega) hfr (fun c hc => hcl c _ (by simp [hc])))
      have HBE3 := Lib.hid (HBE.out.trans (hb03.mono HBE.out.size))
      have HG0 : Hid (wr.heap.size ≤ g0) := Lib.hid hg0
      have HCC : Hid (W ≤ C3 ∧ C3 ≤ maxLen) := Lib.hid ⟨hc1, hc2⟩
      have hkl : k < 1099511627776 := by omega
      clear hown3 hgr3 hb3 hg0 hg1 hc1 hc2 hfr hcl hb03 hu3 HOWN0 HRDA HRD hcell2 HRW3
      go_wp2_with (at_builtin; refine wpList_pushAt _ _ 29 w.heap.size 22 (.slice none 0 0) 24 _ k (hdL R C W k) (.slice (some ⟨g0, 0, none⟩) W C3) rfl rfl rfl rfl Try.underlying29 Try.infoBools rfl rfl (by decide) HU3.out hkl HBE3.out.size ?_)
      intro v5 w5 hown5 hgr5 hb5 hat5
      have hne5 : ∀ r, r < k + 1 → v5.ownBlock ≠ some (if r = k then g0 else R r) := fun r hr e => by
        have hlt5 := HRW4.out.lt r hr
        rcases hat5 with h | h
        · rw [h] at e
          by_cases er : r = k
          · rw [if_pos er] at e
            have h1 := (HO.out.lt _ e).2
            have h2 := HG0.out
            omega
          · rw [if_neg er] at e
            exact HNE.out r (by omega) e
        · rw [h] at e; injection e with e
          omega
      have HNE5 := Lib.hid hne5
      have HRW5 := Lib.hid (HRW4.out.mod (Mod.of_grown hgr5) (fun r hr e => by
        by_cases er : r = k
        · rw [if_pos er] at e
          have h1 := (HO.out.lt _ e).2
          have h2 := HG0.out
          omega
        · rw [if_neg er] at e
          exact HNE.out r (by omega) e))
      have HO5 : Hid (w5.ownsRow w.heap.size 22 1 v5 (k + 1) (hdL (fun i => if i = k then g0 else R i) (fun i => if i = k then C3 else C i) W (k + 1))) := Lib.hid (by
        have e : hdL (fun i => if i = k then g0 else R i) (fun i => if i = k then C3 else C i) W (k + 1) = hdL R C W k ++ [.slice (some ⟨g0, 0, none⟩) W C3] := by
          unfold hdL
          rw [List.range_succ, List.map_append, List.map_cons, List.map_nil]
          congr 1
          · exact List.map_congr_left (fun j hj => by have := List.mem_range.1 hj; unfold hdV; dsimp only; rw [if_neg (by omega), if_neg (by omega)])
          · simp [hdV]
        rw [e]; exact hown5)
      have HCP5 : Hid (∀ r, r < k + 1 → W ≤ (if r = k then C3 else C r) ∧ (if r = k then C3 else C r) ≤ maxLen) := Lib.hid (fun r hr => by
        by_cases er : r = k
        · rw [if_pos er]; exact HCC.out
        · rw [if_neg er]; exact HCP.out r (by omega))
      have HBE5 := Lib.hid (HBE3.out.trans hb5)
      clear hown5 hgr5 hb5 hat5 hne5 HO HRW HNE HCP HBE HU3 HRW4 HBE3 HG0 HCC
      go_wp2_with fail
      go_roundw
      case rel => exact ⟨k + 1, fun i => if i = k then g0 else R i, fun i => if i = k then C3 else C i, by omega, by go_num, HO5, HRW5, HNE5, HCP5, HBE5⟩
      case measure => simp [intOf]; omega
    · obtain rfl : k = H := by omega
      obtain ⟨G, c9, hve, hG0, hG1, hc1, hc2, hfr, hcl⟩ := own_cells HO.out hH
      subst hve
      have HWR : Hid (WR wr w.heap.size G W (· < k) f R C) := Lib.hid ⟨HRW.out, hG0, hG1, hfr, fun r hr e => HNE.out r hr (by rw [e]; rfl), fun r hr => hcl r _ (by unfold hdL; rw [List.getElem?_map, List.getElem?_range hr]; rfl), HCP.out⟩
      clear hG0 hG1 hc1 hc2 hfr hcl
      go_wp2_with fail
      go_ret
      exact ⟨G, c9, R, C, rfl, HWR, HBE.out⟩

/-- Rows turned by a quarter, so far: the last x of them are there. -/
def TurnPost (f : Nat → Nat → Bool) (H W : Nat) (w : World) (e : Ending) (w' : World) : Prop := ∃ G R C, e = .returned (.slice (some ⟨G, 0, none⟩) W W) ∧ Hid (WR w' w.heap.size G H (· < W) (fun r c => f c (W - 1 - r)) R C) ∧ Below w.heap.size w w'

set_option maxRecDepth 100000 in
set_option maxHeartbeats 1600000 in
theorem biTurned (H W : Nat) (hH : 0 < H) (hW : 0 < W) (hHl : H < 100000) (hWl : W < 100000) (f : Nat → Nat → Bool) (A : Option Addr) (c : Nat) (w : World) (h : Rows2 w A H W f) :
    Calls Try.prog 44 #[.slice A H c] w (TurnPost f H W w) := by
  obtain ⟨b, off, e, hb, hr⟩ := h hH
  subst e
  have hmk := fun X => run_make1 (P := Try.prog) 29 22 (.slice none 0 0) 24 Try.underlying29 Try.infoBools rfl (by decide) W (by omega) .i64 .i64 W rfl X
  have hmk2 := fun X => run_make1 (P := Try.prog) 22 4 (.bool false) 1 Try.underlying22 Try.infoBoolG rfl (by decide) H (by omega) .i64 .i64 H rfl X
  have hh0 := hr 0 hH
  obtain ⟨B0, C0, hc0, _⟩ := hh0
  rw [Nat.add_zero] at hc0
  have HR := Lib.hid hr
  have HC0 := Lib.hid hc0
  have hH1 : (0 : Int) < (H : Int) := by omega
  clear h hr
  go_enter Try.func44, Try.ntmps44
  go_wp2_with fail
  obtain ⟨G, hG⟩ : ∃ G, G = w.heap.size := ⟨_, rfl⟩
  obtain ⟨w1, hw1⟩ : ∃ w1, w1 = w.alloc (.cells (zeros W (.slice none 0 0)) 22) := ⟨_, rfl⟩
  rw [← hw1, ← hG]
  have HA1 : Hid (Arr w1 22 G (List.replicate W (.slice none 0 0))) := Lib.hid (by rw [hw1, hG]; exact Arr.new _ _ _)
  have HB1 : Hid (Below w.heap.size w w1) := Lib.hid (by rw [hw1]; exact (Below.refl _ _).alloc (Nat.le_refl _) _)
  have HGE := Lib.hid hG
  have HW0 : Hid (WR w1 w.heap.size G H (fun r => W ≤ r ∧ r < W) (fun r c => f c (W - 1 - r)) (fun _ => 0) (fun _ => 0)) := Lib.hid ⟨⟨fun r hr => by omega, fun r hr => by omega, fun r r' hr => by omega, fun r c hr => by omega, fun r c hr => by omega⟩, by rw [hG]; exact Nat.le_refl _, HA1.out.lt, HA1.out.free, fun r hr => by omega, fun r hr => by omega, fun r hr => by omega⟩
  have HX0 : Hid (∀ r, r < W → ∃ u, w1.cell? ⟨G, r, none⟩ = some u) := Lib.hid (fun r hr => ⟨.slice none 0 0, by rw [HA1.out.cell?]; simp [hr]⟩)
  clear hG hw1 hmk
  go_loopw [4] (fun i wr => ∃ (x : Nat) (R C : Nat → Nat), x ≤ W ∧ i = .int .i64 x ∧ Hid (WR wr w.heap.size G H (fun r => W - x ≤ r ∧ r < W) (fun r c => f c (W - 1 - r)) R C) ∧ Hid (∀ r, r < W → ∃ u, wr.cell? ⟨G, r, none⟩ = some u) ∧ Hid (Below w.heap.size w wr)) (fun i _ => W - (intOf i).toNat)
  case atStart => exact ⟨0, _, _, by omega, rfl, by rw [Nat.sub_zero]; exact HW0, HX0, HB1⟩
  case round =>
    obtain ⟨x, R, C, hx, rfl, HWR, HX, HBE⟩ := hrel
    clear HW0 HX0 HB1 hc0
    have hc0 := (HBE.out.cell (p := ⟨b, off, none⟩) hb).trans HC0.out
    by_cases hlt : x < W
    · have hx1 : (x : Int) < (W : Int) := by omega
      go_wp2_with fail
      obtain ⟨N, hN⟩ : ∃ N, N = wr.heap.size := ⟨_, rfl⟩
      obtain ⟨w2, hw2⟩ : ∃ w2, w2 = wr.alloc (.cells (zeros H (.bool false)) 4) := ⟨_, rfl⟩
      rw [← hw2, ← hN]
      have HA2 : Hid (Arr w2 4 N ((List.range H).map fun c => .bool (decide (c < 0) && f c x))) := Lib.hid (by
        have := Arr.new wr 4 (List.replicate H (.bool false))
        rw [hw2, hN]
        have e : ((List.range H).map fun c => Value.bool (decide (c < 0) && f c x)) = List.replicate H (.bool false) := by
          apply List.ext_getElem (by simp)
          intro j h1 h2; simp
        rw [e]; exact this)
      have HB2 : Hid (Below wr.heap.size wr w2) := Lib.hid (by rw [hw2]; exact (Below.refl _ _).alloc (Nat.le_refl _) _)
      have HNE := Lib.hid hN
      clear hN hw2 hc0
      obtain ⟨wo, hwo⟩ : ∃ wo : World, wo = wr := ⟨_, rfl⟩
      subst hwo
      go_loopw [6] (fun i wz => ∃ y : Nat, y ≤ H ∧ i = .int .i64 y ∧ Hid (Arr wz 4 N ((List.range H).map fun c => .bool (decide (c < y) && f c x))) ∧ Hid (Below wo.heap.size wo wz)) (fun i _ => H - (intOf i).toNat)
      case atStart => exact ⟨0, by omega, rfl, HA2, HB2⟩
      case round =>
        obtain ⟨y, hy, rfl, HAY, HBY⟩ := hrel
        clear HA2 HB2
        have HBW : Hid (Below w.heap.size w wr) := Lib.hid (HBE.out.trans (HBY.out.mono HBE.out.size))
        by_cases hyl : y < H
        · obtain ⟨By, Cy, hcy, hrdy⟩ := HR.out y hyl
          obtain ⟨bb, oo, ey, hbb, hcc⟩ := hrdy hW
          subst ey
          have g1 := (HBW.out.cell (p := ⟨b, off + y, none⟩) hb).trans hcy
          have g2 := (HBW.out.cell (p := ⟨bb, oo + x, none⟩) hbb).trans (hcc x hlt)
          dsimp only at g2
          have hy0 : (0 : Int) ≤ (y : Int) := by omega
          have hy1 : (y : Int) < (H : Int) := by omega
          have hx0 : (0 : Int) ≤ (x : Int) := by omega
          have hfree := HAY.out.free y
          have HAY2 := HAY.out.set_ y (.bool (f y x))
          have e : ((List.range H).map fun c => Value.bool (decide (c < y) && f c x)).set y (.bool (f y x)) = ((List.range H).map fun c => Value.bool (decide (c < y + 1) && f c x)) := by
            apply List.ext_getElem (by simp)
            intro j h1 h2
            simp only [List.getElem_set, List.getElem_map, List.getElem_range]
            by_cases ej : y = j
            · subst ej; simp
            · rw [if_neg ej]
              have : decide (j < y) = decide (j < y + 1) := by rw [decide_eq_decide]; omega
              rw [this]
          rw [e] at HAY2
          have HA3 := Lib.hid HAY2
          have hcell := HAY.out.cell? y
          rw [List.getElem?_map, List.getElem?_range hyl] at hcell
          have hcell2 : wr.cell? ⟨N, y, none⟩ = some (.bool false) := by
            rw [hcell]; simp
          have HB3 := Lib.hid (HBY.out.setCell (p := ⟨N, y, none⟩) (by rw [HNE.out]; exact Nat.le_refl _) (.bool (f y x)))
          obtain ⟨v, hv⟩ : ∃ v, v = f y x := ⟨_, rfl⟩
          rw [← hv] at g2 HA3 HB3
          clear hcy hrdy hcc HAY2 e hcell hv HAY HBY
          go_wp2_with fail
          go_roundw
          case rel => exact ⟨y + 1, by omega, by go_num, HA3, HB3⟩
          case measure => simp [intOf]; omega
        · obtain rfl : y = H := by omega
          have hc0 := (HBW.out.cell (p := ⟨b, off, none⟩) hb).trans HC0.out
          obtain ⟨z, hz⟩ : ∃ z, z = W - 1 - x := ⟨_, rfl⟩
          have ez : (W : Int) - 1 - (x : Int) = (z : Int) := by omega
          have hz0 : (0 : Int) ≤ (z : Int) := by omega
          have hz1 : (z : Int) < (W : Int) := by omega
          have hzx : x = W - 1 - z := by omega
          have HWR2 := HWR.out.below HBY.out
          obtain ⟨u, hu⟩ := HX.out z (by omega)
          have hu2 := (HBY.out.cell (p := ⟨G, z, none⟩) HWR.out.glt).trans hu
          have hfree := HWR2.gfree z
          have HPUT := Lib.hid (HWR2.put (g := fun r c => f c (W - 1 - r)) z N y (fun r => W - (x + 1) ≤ r ∧ r < W) (fun r => by omega) (by have := HBE.out.size; rw [HNE.out]; exact this) HAY.out.lt (fun e => by have := HWR.out.glt; rw [HNE.out] at e; omega) (fun r hr e => by have := HWR.out.rows.lt r hr; rw [HNE.out] at e; omega) HAY.out.free (fun c hc => by rw [HAY.out.cell?]; simp [hc, ← hzx]) (fun r c hr hc hne => rfl) ⟨Nat.le_refl _, by unfold maxLen; omega⟩ ⟨u, hu2⟩)
          have HX2 : Hid (∀ r, r < W → ∃ u, (wr.setCell ⟨G, z, none⟩ (.slice (some ⟨N, 0, none⟩) y y)).cell? ⟨G, r, none⟩ = some u) := Lib.hid (fun r hr => by
            by_cases e : r = z
            · subst e; exact ⟨_, World.cell?_setCell_same _ _ _ hu2⟩
            · obtain ⟨u3, hu3⟩ := HX.out r hr
              exact ⟨u3, by rw [World.cell?_setCell_other _ _ _ _ (fun e2 => e (by injection e2 with _ e3 _; exact e3.symm))]; exact (HBY.out.cell (p := ⟨G, r, none⟩) HWR.out.glt).trans hu3⟩)
          have HB3 := Lib.hid (HBW.out.setCell (p := ⟨G, z, none⟩) (by rw [HGE.out]; exact Nat.le_refl _) (.slice (some ⟨N, 0, none⟩) y y))
          clear hz HWR2 hu hzx
          go_wp2_with fail
          go_roundw
          case rel => exact ⟨x + 1, _, _, by omega, by go_num, HPUT, HX2, HB3⟩
          case measure => simp [intOf]; omega
    · obtain rfl : x = W := by omega
      have HW9 : Hid (WR wr w.heap.size G H (· < x) (fun r c => f c (x - 1 - r)) R C) := Lib.hid (by
        have h := HWR.out
        rw [Nat.sub_self] at h
        have hd : (fun r => 0 ≤ r ∧ r < x) = (fun r => r < x) := by funext r; simp
        rw [hd] at h
        exact h)
      go_wp2_with fail
      go_ret
      exact ⟨G, R, C, rfl, HW9, HBE.out⟩
end Go.Proofs.Ytcfcbcjaiplllaa
