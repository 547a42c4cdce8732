/-
  Rows of bools: BIRows, BISameBits, ParseBoolMapToBitMatrix, walked. No condition beyond the bounds that each theorem states.
-/
import Derived.Test.YtcfcbcjaiplllaaBM
import Derived.BigRegion
namespace Go.Proofs.Ytcfcbcjaiplllaa
open Go.RowKit Go.Qz
set_option linter.unusedVariables false

/-- A slice of H rows of W bools each, that reads as f. -/
def Rows2 (w : World) (A : Option Addr) (H W : Nat) (f : Nat → Nat → Bool) : Prop :=
  0 < H → ∃ b off, A = some ⟨b, off, none⟩ ∧ b < w.heap.size ∧ ∀ r, r < H → ∃ B C, w.cell? ⟨b, off + r, none⟩ = some (.slice B W C) ∧ Rd w B W (fun c => .bool (f r c))
theorem Rows2.below {w w' : World} {A : Option Addr} {H W : Nat} {f : Nat → Nat → Bool} (h : Rows2 w A H W f) (hb : Below w.heap.size w w') : Rows2 w' A H W f := fun h0 => by
  obtain ⟨b, off, e, hlt, hr⟩ := h h0
  refine ⟨b, off, e, Nat.lt_of_lt_of_le hlt hb.size, fun r hrl => ?_⟩
  obtain ⟨B, C, h1, h2⟩ := hr r hrl
  exact ⟨B, C, (hb.cell (p := ⟨b, off + r, none⟩) hlt).trans h1, h2.below hb⟩

/-- The bit at a place, of bits that go on and on. -/
def fitB (z : Nat → Bool) (n W r c : Nat) : Bool := decide (0 < n) && z ((r * W + c) % n)

theorem Try.infoBools : (Try.prog.info? 22).map (fun i => (i.zero, i.size, i.bytes)) = some (some (.slice none 0 0), 1, 24) := by kernel_rfl

/-- The headers of rows, so far: row r lies in block R + 1 + r. -/
def hdrs (R W H k : Nat) : List Value := (List.range H).map fun r => if r < k then Value.slice (some ⟨R + 1 + r, 0, none⟩) W W else .slice none 0 0
theorem hdrs_get (R W H k r : Nat) (hr : r < H) : (hdrs R W H k)[r]? = some (if r < k then Value.slice (some ⟨R + 1 + r, 0, none⟩) W W else .slice none 0 0) := by
  simp [hdrs, hr]
theorem hdrs_set (R W H k : Nat) : (hdrs R W H k).set k (.slice (some ⟨R + 1 + k, 0, none⟩) W W) = hdrs R W H (k + 1) := by
  apply List.ext_getElem (by simp [hdrs])
  intro j h1 h2
  simp only [hdrs, List.getElem_set, List.getElem_map, List.getElem_range]
  by_cases e : k = j
  · subst e; rw [if_pos rfl, if_pos (by omega)]
  · rw [if_neg e]
    by_cases h : j < k
    · rw [if_pos h, if_pos (by omega)]
    · rw [if_neg h, if_neg (by omega)]
theorem hdrs_zero (R W H : Nat) : (hdrs R W H 0) = List.replicate H (.slice none 0 0) := by
  apply List.ext_getElem (by simp [hdrs])
  intro j h1 h2
  simp [hdrs]

theorem rem_run (a b c : Int) (h0 : ¬ b = 0) (h : a.tmod b = c) (W : World) : (binOp .rem 3 (.int .i64 a) (.int .i64 b)).run Try.prog W = .ok (.int .i64 c) W := by
  subst h
  show ((Op.intDiv .rem .i64 a b).run Try.prog W) = _
  unfold Op.intDiv
  simp [h0, go_sem]
set_option maxRecDepth 100000 in
set_option maxHeartbeats 3200000 in
theorem biRows2 (W H : Nat) (hW : 0 < W) (hH : 0 < H) (hWl : W < 200) (hHl : H < 200) (z : Nat → Bool) (A : Option Addr) (n c : Nat) (hn : n < 4294967296) (w : World) (h : Rd w A n (fun j => .bool (z j))) :
    Calls Try.prog 22 #[.int .i64 W, .int .i64 H, .slice A n c] w fun e w' => ∃ b, e = .returned (.slice (some ⟨b, 0, none⟩) H H) ∧ Hid (Rows2 w' (some ⟨b, 0, none⟩) H W (fitB z n W)) ∧ Below w.heap.size w w' := by
  have hmkH := fun W => run_make1 (P := Try.prog) 29 22 (.slice none 0 0) 24 Try.underlying29 Try.infoBools rfl (by decide) H (by omega) .i64 .i64 H rfl W
  have hmkW := fun X => run_make1 (P := Try.prog) 22 4 (.bool false) 1 Try.underlying22 Try.infoBool' rfl (by decide) W (by omega) .i64 .i64 W rfl X
  have HR := Lib.hid h
  have hAr : Arr (w.alloc (.cells (zeros H (.slice none 0 0)) 22)) 22 w.heap.size (hdrs w.heap.size W H 0) := by
    rw [hdrs_zero]; exact Arr.new w 22 _
  have hb0 : Below w.heap.size w (w.alloc (.cells (zeros H (.slice none 0 0)) 22)) := (Below.refl _ _).alloc (Nat.le_refl _) _
  have hs0 : (w.alloc (.cells (zeros H (.slice none 0 0)) 22)).heap.size = w.heap.size + 1 := by simp
  clear h
  go_enter Try.func22, Try.ntmps22
  go_wp2_with fail
  obtain ⟨W3, hW3⟩ : ∃ W3, W3 = w.alloc (.cells (zeros H (.slice none 0 0)) 22) := ⟨_, rfl⟩
  rw [← hW3] at hAr hb0 hs0 ⊢
  obtain ⟨R, hR⟩ : ∃ R, R = w.heap.size := ⟨_, rfl⟩
  rw [← hR] at hAr hb0 hs0 ⊢
  have HRR := Lib.hid hR
  have HS0 : Hid (W3.heap.size = R + 1 + 0) := Lib.hid hs0
  clear hW3 hR hs0
  go_loopw [8] (fun i wr => ∃ k : Nat, k ≤ H ∧ i = .int .i64 k ∧ Arr wr 22 R (hdrs R W H k) ∧ Below R w wr ∧ Hid (wr.heap.size = R + 1 + k) ∧ Hid (∀ r, r < k → BL wr (R + 1 + r) (upB W (fitB z n W r) W))) (fun i _ => H - (intOf i).toNat)
  case atStart => exact ⟨0, by omega, rfl, hAr, hb0, HS0, Lib.hid (fun r hr => by omega)⟩
  case round =>
    obtain ⟨k, hk, rfl, hA2, hB2, HS, HB⟩ := hrel
    clear hAr hb0 HS0
    by_cases hlt : k < H
    · have hhl : (hdrs R W H k).length = H := by simp [hdrs]
      have hck := hA2.cell? k
      rw [hdrs_get _ _ _ _ _ hlt, if_neg (by omega)] at hck
      have hfk := hA2.free k
      have hsz : wr.heap.size = R + 1 + k := HS.out
      have hk0 : (0 : Int) ≤ (k : Int) := by omega
      have hk1 : (k : Int) < (H : Int) := by omega
      have hck2 : (wr.alloc (.cells (zeros W (.bool false)) 4)).cell? ⟨R, k, none⟩ = some (.slice none 0 0) := (World.cell?_alloc_past _ _ _ hA2.lt).trans hck
      have hfk2 : (wr.alloc (.cells (zeros W (.bool false)) 4)).frozen? ⟨R, k, none⟩ = false := (hA2.mod (S := fun _ => False) ((Mod.refl _).alloc (.cells (zeros W (.bool false)) 4)) (fun h => h)).free k
      have hA3 := (hA2.mod (S := fun _ => False) ((Mod.refl _).alloc (.cells (zeros W (.bool false)) 4)) (fun h => h)).set_ k (.slice (some ⟨R + 1 + k, 0, none⟩) W W)
      rw [hdrs_set] at hA3
      have hL := BL.zeros wr W (fitB z n W k)
      rw [hsz] at hL
      have hL3 : BL ((wr.alloc (.cells (zeros W (.bool false)) 4)).setCell ⟨R, k, none⟩ (.slice (some ⟨R + 1 + k, 0, none⟩) W W)) (R + 1 + k) (upB W (fitB z n W k) 0) := hL.arr.mod (Mod.set1 _ R k _) (by omega)
      have hB3 : Below R w ((wr.alloc (.cells (zeros W (.bool false)) 4)).setCell ⟨R, k, none⟩ (.slice (some ⟨R + 1 + k, 0, none⟩) W W)) := (hB2.alloc (by omega) _).setCell (p := ⟨R, k, none⟩) (Nat.le_refl _) _
      have hS3 : ((wr.alloc (.cells (zeros W (.bool false)) 4)).setCell ⟨R, k, none⟩ (.slice (some ⟨R + 1 + k, 0, none⟩) W W)).heap.size = R + 1 + (k + 1) := by simp [World.setCell]; omega
      have hBL3 : ∀ r, r < k → BL ((wr.alloc (.cells (zeros W (.bool false)) 4)).setCell ⟨R, k, none⟩ (.slice (some ⟨R + 1 + k, 0, none⟩) W W)) (R + 1 + r) (upB W (fitB z n W r) W) := fun r hr =>
        ((HB.out r hr).arr.mod (S := fun _ => False) ((Mod.refl _).alloc (.cells (zeros W (.bool false)) 4)) (fun h => h)).mod (Mod.set1 _ R k _) (by omega)
      clear hA2 hB2 hL hhl hck HB
      go_wp2_with fail
      obtain ⟨W4, hW4⟩ : ∃ W4, W4 = (wr.alloc (.cells (zeros W (.bool false)) 4)).setCell ⟨R, k, none⟩ (.slice (some ⟨R + 1 + k, 0, none⟩) W W) := ⟨_, rfl⟩
      rw [← hW4] at hA3 hL3 hB3 hS3 hBL3 ⊢
      have HA3 := Lib.hid hA3
      have HB3 := Lib.hid hB3
      have HBL3 := Lib.hid hBL3
      have HL3 := Lib.hid hL3
      have HS3 := Lib.hid hS3
      clear hA3 hB3 hBL3 hL3 hS3 hW4 hck2 hfk2 hsz HS
      go_loopw [9] (fun i wr => ∃ x : Nat, x ≤ W ∧ i = .int .i64 x ∧ Arr wr 22 R (hdrs R W H (k + 1)) ∧ Below R w wr ∧ Hid (wr.heap.size = R + 1 + (k + 1)) ∧ Hid (∀ r, r < k → BL wr (R + 1 + r) (upB W (fitB z n W r) W)) ∧ BL wr (R + 1 + k) (upB W (fitB z n W k) x)) (fun i _ => W - (intOf i).toNat)
      case atStart => exact ⟨0, by omega, rfl, HA3.out, HB3.out, HS3, HBL3, HL3.out⟩
      case round =>
        obtain ⟨x, hx, rfl, hA5, hB5, HS5, HBL5, hL5⟩ := hrel
        clear HA3 HB3 HS3 HBL3 HL3
        by_cases hxl : x < W
        · by_cases hn0 : 0 < n
          · obtain ⟨ab, ao, rfl, hab, hac⟩ := HR.out hn0
            obtain ⟨m, hm⟩ : ∃ m, m = k * W := ⟨_, rfl⟩
            have em : (k : Int) * (W : Int) = (m : Int) := by rw [hm]; simp
            have hml : m < 40000 := by rw [hm]; exact Nat.lt_of_le_of_lt (Nat.mul_le_mul (show k ≤ 199 by omega) (show W ≤ 199 by omega)) (by decide)
            have hwm : IntKind.i64.wrap (m : Int) = (m : Int) := by rw [IntKind.wrap_i64]; omega
            obtain ⟨j, hj⟩ : ∃ j, j = (m + x) % n := ⟨_, rfl⟩
            have hjl : j < n := by rw [hj]; exact Nat.mod_lt _ hn0
            have ej : ((m : Int) + (x : Int)).tmod (n : Int) = (j : Int) := by rw [Int.tmod_eq_emod_of_nonneg (by omega), hj]; simp
            have ejm : ((m : Int) + (x : Int)) % (n : Int) = (j : Int) := by rw [hj]; simp
            have hws : IntKind.i64.wrap ((m : Int) + (x : Int)) = (m : Int) + (x : Int) := by rw [IntKind.wrap_i64]; omega
            have hrem := fun W => rem_run ((m : Int) + (x : Int)) (n : Int) (j : Int) (by omega) ej W
            have cz := (hB5.cell (p := ⟨ab, ao + j, none⟩) (by rw [HRR.out]; exact hab)).trans (hac j hjl)
            dsimp only at cz
            have hfit : fitB z n W k x = z j := by unfold fitB; rw [hj, hm]; simp [hn0]
            have hL6 := hL5.set_
            rw [hfit] at hL6
            have ch := hA5.cell? k
            rw [hdrs_get _ _ _ _ _ hlt, if_pos (by omega)] at ch
            have cl := hL5.cell hxl
            have hz0 : (decide (x < x) && fitB z n W k x) = false := by simp
            rw [hz0] at cl
            have fl := hL5.arr.free x
            obtain ⟨v, hv⟩ : ∃ v, v = z j := ⟨_, rfl⟩
            rw [← hv] at cz hL6
            have hj0 : (0 : Int) ≤ (j : Int) := by omega
            have hj1 : (j : Int) < (n : Int) := by omega
            have hx0 : (0 : Int) ≤ (x : Int) := by omega
            have hx1 : (x : Int) < (W : Int) := by omega
            have hn1 : (0 : Int) < (n : Int) := by omega
            have hkH : (k : Int) < (H : Int) := by omega
            have hA7 := Lib.hid (hA5.mod (Mod.set1 wr (R + 1 + k) x (.bool v)) (by omega))
            have hB7 := Lib.hid (hB5.setCell (p := ⟨R + 1 + k, x, none⟩) (by dsimp only; omega) (.bool v))
            have HS7 : Hid ((wr.setCell ⟨R + 1 + k, x, none⟩ (.bool v)).heap.size = R + 1 + (k + 1)) := Lib.hid (by simp only [World.setCell]; rw [Array.size_modify]; exact HS5.out)
            have HBL7 : Hid (∀ r, r < k → BL (wr.setCell ⟨R + 1 + k, x, none⟩ (.bool v)) (R + 1 + r) (upB W (fitB z n W r) W)) := Lib.hid (fun r hr => (HBL5.out r hr).arr.mod (Mod.set1 wr (R + 1 + k) x (.bool v)) (by omega))
            have HL7 := Lib.hid hL6
            clear hm hj hfit hz0 hv hA5 hB5 hL5 hL6 hac ej
            go_wp2_with fail
            go_region
            go_wp2_with fail
            go_roundw
            case rel => exact ⟨x + 1, by omega, by go_num, hA7.out.mod (Mod.drewN (Mod.refl (S := fun _ => False) _) 1) (fun h => h), below_drewN hB7.out 1, HS7, HBL7, HL7.out.arr.mod (Mod.drewN (Mod.refl (S := fun _ => False) _) 1) (fun h => h)⟩
            case measure => simp [intOf]; omega
          · obtain rfl : n = 0 := by omega
            have HL6 : Hid (BL wr (R + 1 + k) (upB W (fitB z 0 W k) W)) := Lib.hid (by
              have e : upB W (fitB z 0 W k) W = upB W (fitB z 0 W k) x := by unfold upB fitB; simp
              rw [e]; exact hL5)
            have HBL7 : Hid (∀ r, r < k + 1 → BL wr (R + 1 + r) (upB W (fitB z 0 W r) W)) := Lib.hid (fun r hr => by
              by_cases e : r = k
              · rw [e]; exact HL6.out
              · exact HBL5.out r (by omega))
            clear hL5
            go_wp2_with fail
            go_roundw
            case rel => exact ⟨k + 1, by omega, by go_num, hA5, hB5, HS5, HBL7⟩
            case measure => simp [intOf]; omega
        · obtain rfl : x = W := by omega
          have HBL7 : Hid (∀ r, r < k + 1 → BL wr (R + 1 + r) (upB x (fitB z n x r) x)) := Lib.hid (fun r hr => by
            by_cases e : r = k
            · rw [e]; exact hL5
            · exact HBL5.out r (by omega))
          clear hL5
          go_wp2_with fail
          go_roundw
          case rel => exact ⟨k + 1, by omega, by go_num, hA5, hB5, HS5, HBL7⟩
          case measure => simp [intOf]; omega
    · obtain rfl : k = H := by omega
      have HR2 : Hid (Rows2 wr (some ⟨R, 0, none⟩) k W (fitB z n W)) := Lib.hid (fun h0 => ⟨R, 0, rfl, hA2.lt, fun r hr => ⟨_, _, by rw [Nat.zero_add, hA2.cell? r, hdrs_get _ _ _ _ _ hr, if_pos hr], (HB.out r hr).rd⟩⟩)
      clear hA2
      go_wp2_with fail
      go_ret
      exact ⟨R, rfl, HR2, by rw [← HRR.out]; exact hB2⟩

set_option maxRecDepth 100000 in
set_option maxHeartbeats 1600000 in
theorem biSameBits (f : Nat → Bool) (A B : Option Addr) (n c d : Nat) (hn : n < 100000) (w : World) (hA : Rd w A n (fun j => .bool (f j))) (hB : Rd w B n (fun j => .bool (f j))) :
    Calls Try.prog 11 #[.slice A n c, .slice B n d] w fun e w' => e = .returned (.bool true) ∧ Below w.heap.size w w' := by
  have HA := Lib.hid hA
  have HB := Lib.hid hB
  clear hA hB
  go_enter Try.func11, Try.ntmps11
  go_wp2_with fail
  go_loopw [5] (fun i wr => ∃ k : Nat, k ≤ n ∧ i = .int .i64 k ∧ Below w.heap.size w wr) (fun i _ => n - (intOf i).toNat)
  case atStart => exact ⟨0, by omega, rfl, Below.refl _ _⟩
  case round =>
    obtain ⟨k, hk, rfl, hbel⟩ := hrel
    by_cases hlt : k < n
    · obtain ⟨ab, ao, rfl, hab, hac⟩ := (HA.out.below hbel) (by omega)
      obtain ⟨bb, bo, rfl, hbb, hbc⟩ := (HB.out.below hbel) (by omega)
      have ca := hac k hlt
      have cb := hbc k hlt
      dsimp only at ca cb
      generalize f k = v at *
      have hk0 : (0 : Int) ≤ (k : Int) := by omega
      have hk1 : (k : Int) < (n : Int) := by omega
      have hv : (v != v) = false := by cases v <;> rfl
      have hv2 : (!v == v) = false := by cases v <;> rfl
      have HBEL := Lib.hid hbel
      clear hac hbc hbel
      go_wp2_with fail
      go_quiet (fail)
      go_wp2_with fail
      go_roundw
      case rel => exact ⟨k + 1, by omega, by go_num, below_drewN HBEL.out _⟩
      case measure => simp [intOf]; omega
    · obtain rfl : k = n := by omega
      go_wp2_with fail
      go_ret
      exact ⟨rfl, hbel⟩
end Go.Proofs.Ytcfcbcjaiplllaa
