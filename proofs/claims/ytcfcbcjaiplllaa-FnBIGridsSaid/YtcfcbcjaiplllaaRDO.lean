/-
  rowsOf, walked. No condition beyond the bounds that the theorem states.
-/
import Derived.Test.YtcfcbcjaiplllaaRDM
import Derived.Test.YtcfcbcjaiplllaaGRD
import Derived.StillTailTactics
import Derived.BigRegion
namespace Go.Proofs.Ytcfcbcjaiplllaa
open Go.RowKit Go.Qz
set_option linter.unusedVariables false

/-- Rows so far: k whole ones, and x of the next. -/
def rowK (f : Nat → Nat → Bool) (k x r c : Nat) : Bool := (decide (r < k) || decide (c < x)) && f r c
def RowsPost (f : Nat → Nat → Bool) (H W : Nat) (w : World) (e : Ending) (w' : World) : Prop := ∃ G, e = .returned (.slice (some ⟨G, 0, none⟩) H H) ∧ Hid (Rows2 w' (some ⟨G, 0, none⟩) H W f) ∧ Below w.heap.size w w'
theorem Grid.rows2 {w : World} {G H W : Nat} {f : Nat → Nat → Bool} (h : Grid w 22 4 G H W H (fun r c => .bool (f r c))) : Rows2 w (some ⟨G, 0, none⟩) H W f := fun h0 =>
  ⟨G, 0, rfl, h.hd.lt, fun r hr => ⟨some ⟨G + 1 + r, 0, none⟩, W, by rw [Nat.zero_add]; exact h.head r hr hr, fun h1 => ⟨G + 1 + r, 0, rfl, (h.row r hr).lt, fun c hc => by rw [Nat.zero_add]; exact h.cell r c hr hc⟩⟩⟩
set_option maxRecDepth 100000 in
set_option maxHeartbeats 6400000 in
theorem rowsOf (p g W H : Nat) (ws : List Nat) (f : Nat → Nat → Bool) (hW1 : W < 1000) (hH1 : H < 1000) (w : World) (h : BM w p g ws W H) (hf : ∀ x y, x < W → y < H → mb ws W x y = f y x) :
    Calls Try.prog 42 #[.pointer (some ⟨p, 0, none⟩)] w (RowsPost f H W w) := by
  have hmkH := fun X => run_make1 (P := Try.prog) 29 22 (.slice none 0 0) 24 Try.underlying29 Try.infoBools rfl (by decide) H (by omega) .i64 .i64 H rfl X
  have hmkW := fun X => run_make1 (P := Try.prog) 22 4 (.bool false) 1 Try.underlying22 Try.infoBool' rfl (by decide) W (by omega) .i64 .i64 W rfl X
  have HBM := Lib.hid h
  have HF := Lib.hid hf
  have HHI := Lib.hid (bm_height p g W H ws w h)
  obtain ⟨G, hG⟩ : ∃ G, G = w.heap.size := ⟨_, rfl⟩
  obtain ⟨W3, hW3⟩ : ∃ W3, W3 = w.alloc (.cells (zeros H (.slice none 0 0)) 22) := ⟨_, rfl⟩
  have HG0 : Hid (Grid W3 22 4 G H W 0 (fun r c => .bool (f r c))) := Lib.hid (by rw [hW3, hG]; exact Grid.zero _ _ _ _ _)
  have HB0 : Hid (Below G w W3) := Lib.hid (by rw [hW3, hG]; exact (Below.refl _ _).alloc (Nat.le_refl _) _)
  have HS0 : Hid (W3.heap.size = G + 1 + 0) := Lib.hid (by rw [hW3, hG]; simp)
  have HW3 := Lib.hid hW3
  have HGE := Lib.hid hG
  have HPG : Hid (p < G ∧ g < G) := Lib.hid (by have := h.plt; have := h.glt; omega)
  clear h hf hW3
  go_enter Try.func42, Try.ntmps42
  go_wp2_with fail
  refine HHI.out.mono ?_
  rintro e w1 ⟨rfl, rfl⟩
  clear HHI
  go_wp2_with fail
  rw [← hG, ← HW3.out]
  clear hG hmkH
  go_loopw [11] (fun i wr => ∃ k : Nat, k ≤ H ∧ i = .int .i64 k ∧ Hid (Grid wr 22 4 G H W k (fun r c => .bool (f r c))) ∧ Hid (wr.heap.size = G + 1 + k) ∧ Hid (Below G w wr)) (fun i _ => H - (intOf i).toNat)
  case atStart => exact ⟨0, by omega, rfl, HG0, HS0, HB0⟩
  case round =>
    obtain ⟨wo, hwo⟩ : ∃ wo, wo = wr := ⟨_, rfl⟩
    rw [← hwo] at hrel ⊢
    clear hwo
    obtain ⟨k, hk, rfl, HGk, HS, HB⟩ := hrel
    clear HG0 HB0 HS0
    by_cases hlt : k < H
    · have hck : wo.cell? ⟨G, k, none⟩ = some (.slice none 0 0) := by rw [HGk.out.hd.cell?, hdr_get _ _ _ _ _ hlt, if_neg (by omega)]
      have hsz : wo.heap.size = G + 1 + k := HS.out
      have hk0 : (0 : Int) ≤ (k : Int) := by omega
      have hk1 : (k : Int) < (H : Int) := by omega
      have hGl := HGk.out.hd.lt
      have hck2 : (wo.alloc (.cells (zeros W (.bool false)) 4)).cell? ⟨G, k, none⟩ = some (.slice none 0 0) := (World.cell?_alloc_past _ _ _ hGl).trans hck
      have hfk2 : (wo.alloc (.cells (zeros W (.bool false)) 4)).frozen? ⟨G, k, none⟩ = false := (HGk.out.hd.mod (S := fun _ => False) ((Mod.refl _).alloc (.cells (zeros W (.bool false)) 4)) (fun h => h)).free k
      have hG2 := (HGk.out.congr (g := fun r c => .bool (rowK f k 0 r c)) (fun r c hr hc => by simp [rowK, hr])).push (.bool false) (fun c hc => by simp [rowK]) hsz
      have hB2 : Below G w ((wo.alloc (.cells (zeros W (.bool false)) 4)).setCell ⟨G, k, none⟩ (.slice (some ⟨G + 1 + k, 0, none⟩) W W)) := (HB.out.alloc (by omega) _).setCell (p := ⟨G, k, none⟩) (Nat.le_refl _) _
      have hS2 : ((wo.alloc (.cells (zeros W (.bool false)) 4)).setCell ⟨G, k, none⟩ (.slice (some ⟨G + 1 + k, 0, none⟩) W W)).heap.size = G + 1 + (k + 1) := by simp [World.setCell]; omega
      have HWI := Lib.hid (bm_width p g W H ws wo (HBM.out.below HB.out HPG.out.1 HPG.out.2))
      obtain ⟨W4, hW4⟩ : ∃ W4, W4 = (wo.alloc (.cells (zeros W (.bool false)) 4)).setCell ⟨G, k, none⟩ (.slice (some ⟨G + 1 + k, 0, none⟩) W W) := ⟨_, rfl⟩
      rw [← hW4] at hG2 hB2 hS2
      have c4 := hG2.head k (by omega) hlt
      have HG2 := Lib.hid hG2
      have HB2 := Lib.hid hB2
      have HS2 := Lib.hid hS2
      have HW4 := Lib.hid hW4
      rw [hW4] at c4
      clear hck HGk HB HS hG2 hB2 hS2 hW4
      go_wp2_with fail
      refine HWI.out.mono ?_
      rintro e w5 ⟨rfl, rfl⟩
      clear HWI
      go_wp2_with fail
      rw [← HW4.out]
      clear hck2 hfk2 hsz hGl c4
      go_loopw [25] (fun i wr => ∃ x : Nat, x ≤ W ∧ i = .int .i64 x ∧ Hid (Grid wr 22 4 G H W (k + 1) (fun r c => .bool (rowK f k x r c))) ∧ Hid (wr.heap.size = G + 1 + (k + 1)) ∧ Hid (Below G w wr)) (fun i _ => W - (intOf i).toNat)
      case atStart => exact ⟨0, by omega, rfl, HG2, HS2, HB2⟩
      case round =>
        obtain ⟨wu, hwu⟩ : ∃ wu, wu = wr := ⟨_, rfl⟩
        rw [← hwu] at hrel ⊢
        clear hwu
        obtain ⟨x, hx, rfl, HG3, HS3, HB3⟩ := hrel
        clear HG2 HB2 HS2
        by_cases hxl : x < W
        · have hx0 : (0 : Int) ≤ (x : Int) := by omega
          have hx1 : (x : Int) < (W : Int) := by omega
          have cg := HG3.out.head k (by omega) hlt
          have hgt := bm_get (x : Int) (k : Int) x k rfl rfl p g W H ws wu.drew (HBM.out.below HB3.out.drew HPG.out.1 HPG.out.2) hxl hlt (by omega) (by omega)
          rw [HF.out x k hxl hlt] at hgt
          have HGT : Hid (Calls Try.prog 64 #[.pointer (some ⟨p, 0, none⟩), .int .i64 x, .int .i64 k] wu.drew fun e w' => e = .returned (.bool (f k x)) ∧ w' = wu.drew) := Lib.hid (hgt.mono (fun e w' h => ⟨h.1, h.2.symm⟩))
          have hG6 := (HG3.out.below (show Below wu.heap.size wu wu.drew from (Below.refl _ _).drew)).set_ (g := fun r c => .bool (rowK f k (x + 1) r c)) k x (by omega) (.bool (f k x)) (fun r' c' hr' hc' => by
            by_cases e : r' = k ∧ c' = x
            · obtain ⟨rfl, rfl⟩ := e
              simp [rowK]
            · rw [if_neg e]
              simp only [rowK]
              congr 1
              by_cases h1 : r' < k
              · simp [h1]
              · have h2 : r' = k := by omega
                have h3 : c' ≠ x := fun h => e ⟨h2, h⟩
                have h4 : (c' < x + 1) ↔ (c' < x) := by omega
                simp [h4])
          obtain ⟨v, hv⟩ : ∃ v, v = f k x := ⟨_, rfl⟩
          rw [← hv] at hG6 HGT
          have cl := (HG3.out.below (show Below wu.heap.size wu wu.drew from (Below.refl _ _).drew)).cell k x (by omega) hxl
          have fl := ((HG3.out.below (show Below wu.heap.size wu wu.drew from (Below.refl _ _).drew)).row k (by omega)).free x
          have HG6 := Lib.hid hG6
          have HB6 := Lib.hid ((HB3.out.drew).setCell (p := ⟨G + 1 + k, x, none⟩) (by dsimp only; omega) (.bool v))
          have HS6 : Hid ((wu.drew.setCell ⟨G + 1 + k, x, none⟩ (.bool v)).heap.size = G + 1 + (k + 1)) := Lib.hid (by simp only [World.setCell]; rw [Array.size_modify]; exact HS3.out)
          clear hG6 hv HG3 HB3 HS3 hgt
          go_wp2_with fail
          go_still_tail 10, (by kernel_rfl)
          still_call (HGT.out)
          repeat still_step
          refine wpStill_nil ?_
          change wpList _ _ _ _ _ wu.drew
          obtain ⟨w7, hw7⟩ : ∃ w7, w7 = wu.drew := ⟨_, rfl⟩
          rw [← hw7] at HG6 HB6 HS6 cl fl ⊢
          clear HGT cg hw7
          go_wp2_with fail
          go_roundw
          case rel => exact ⟨x + 1, by omega, by go_num, HG6, HS6, HB6⟩
          case measure => simp [intOf]; omega
        · obtain rfl : x = W := by omega
          have HG7 : Hid (Grid wu 22 4 G H x (k + 1) (fun r c => .bool (f r c))) := Lib.hid (HG3.out.congr (fun r c hr hc => by simp [rowK, hc]))
          clear HG3
          go_wp2_with fail
          go_roundw
          case rel => exact ⟨k + 1, by omega, by go_num, HG7, HS3, HB3⟩
          case measure => simp [intOf]; omega
    · obtain rfl : k = H := by omega
      have HQ : Hid (Rows2 wo (some ⟨G, 0, none⟩) k W f) := Lib.hid (Grid.rows2 HGk.out)
      go_wp2_with fail
      go_ret
      exact ⟨G, rfl, HQ, by rw [← HGE.out]; exact HB.out⟩
end Go.Proofs.Ytcfcbcjaiplllaa
