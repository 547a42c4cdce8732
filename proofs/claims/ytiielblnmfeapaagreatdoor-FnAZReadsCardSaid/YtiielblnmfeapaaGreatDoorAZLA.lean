/-
  Several texts of this claim in one. No condition beyond the bounds that each theorem states.
-/
import Derived.Test.YtiielblnmfeapaaGreatDoorBase
import Derived.Test.YtiielblnmfeapaaGreatDoorGRD
import Derived.Test.YtiielblnmfeapaaGreatDoorRows
namespace Go.Qz.AZ
open Go.Qz
set_option linter.unusedVariables false

/-- The side without the lines of the grid. -/
def sd (c : Bool) (l : Nat) : Nat := (if c then 11 else 14) + 4 * l
/-- The side with them. -/
def whole (c : Bool) (l : Nat) : Nat := if c then sd c l else sd c l + 1 + 2 * ((sd c l / 2 - 1) / 15)
/-- Where a module lies. -/
def plc (c : Bool) (l x : Nat) : Nat :=
  if c then x else if x < sd c l / 2 then whole c l / 2 - ((sd c l / 2 - 1 - x) + (sd c l / 2 - 1 - x) / 15) - 1 else whole c l / 2 + ((x - sd c l / 2) + (x - sd c l / 2) / 15) + 1
theorem plc_lt {c : Bool} {l x : Nat} (hx : x < sd c l) : plc c l x < whole c l := by
  unfold plc whole
  cases c
  · simp only [Bool.false_eq_true, if_false]
    have hs : sd false l = 14 + 4 * l := rfl
    rw [hs] at hx ⊢
    split <;> omega
  · simp only [if_true]; exact hx
theorem plc_mono {c : Bool} {l x y : Nat} (hy : y < sd c l) (h : x < y) : plc c l x < plc c l y := by
  unfold plc whole
  cases c
  · simp only [Bool.false_eq_true, if_false]
    have hs : sd false l = 14 + 4 * l := rfl
    rw [hs] at hy ⊢
    split
    · split <;> omega
    · split <;> omega
  · simp only [if_true]; exact h
theorem plc_inj {c : Bool} {l x y : Nat} (hx : x < sd c l) (hy : y < sd c l) (h : plc c l x = plc c l y) : x = y := by
  rcases Nat.lt_trichotomy x y with h1 | h1 | h1
  · have := plc_mono hy h1; omega
  · exact h1
  · have := plc_mono hx h1; omega

/-- How long a layer's side is. -/
def lng (c : Bool) (l i : Nat) : Nat := 4 * (l - i) + (if c then 9 else 12)
theorem lng_sd {c : Bool} {l i : Nat} (hi : i < l) : lng c l i + 2 + 4 * i = sd c l := by
  unfold lng sd; cases c <;> simp <;> omega
/-- A module of a layer, without the grid: column and row. -/
def mx (c : Bool) (l i k j n : Nat) : Nat := if k = 0 then 2 * i + n else if k = 1 then 2 * i + j else if k = 2 then sd c l - 1 - 2 * i - n else sd c l - 1 - 2 * i - j
def my (c : Bool) (l i k j n : Nat) : Nat := if k = 0 then 2 * i + j else if k = 1 then sd c l - 1 - 2 * i - n else if k = 2 then sd c l - 1 - 2 * i - j else 2 * i + n
theorem ring {c : Bool} {l i k j n : Nat} (hi : i < l) (hk : k < 4) (hj : j < lng c l i) (hn : n < 2) :
    2 * i ≤ mx c l i k j n ∧ 2 * i ≤ my c l i k j n ∧ mx c l i k j n + 2 * i < sd c l ∧ my c l i k j n + 2 * i < sd c l ∧
    (mx c l i k j n ≤ 2 * i + 1 ∨ my c l i k j n ≤ 2 * i + 1 ∨ sd c l ≤ mx c l i k j n + 2 * i + 2 ∨ sd c l ≤ my c l i k j n + 2 * i + 2) := by
  have h := lng_sd (c := c) hi
  have hk4 : k = 0 ∨ k = 1 ∨ k = 2 ∨ k = 3 := by omega
  unfold mx my
  rcases hk4 with rfl | rfl | rfl | rfl <;> simp <;> omega
theorem m_lt {c : Bool} {l i k j n : Nat} (hi : i < l) (hk : k < 4) (hj : j < lng c l i) (hn : n < 2) : mx c l i k j n < sd c l ∧ my c l i k j n < sd c l := by
  have h := ring (c := c) hi hk hj hn
  omega
theorem m_inj {c : Bool} {l i k j n i' k' j' n' : Nat} (hi : i < l) (hk : k < 4) (hj : j < lng c l i) (hn : n < 2) (hi' : i' < l) (hk' : k' < 4) (hj' : j' < lng c l i') (hn' : n' < 2)
    (hx : mx c l i k j n = mx c l i' k' j' n') (hy : my c l i k j n = my c l i' k' j' n') : i = i' ∧ k = k' ∧ j = j' ∧ n = n' := by
  have h1 := ring (c := c) hi hk hj hn
  have h2 := ring (c := c) hi' hk' hj' hn'
  have hs : 11 + 4 * l ≤ sd c l := by unfold sd; cases c <;> simp
  rw [← hx, ← hy] at h2
  have hii : i = i' := by omega
  subst hii
  have hl := lng_sd (c := c) hi
  have hk4 : k = 0 ∨ k = 1 ∨ k = 2 ∨ k = 3 := by omega
  have hk4' : k' = 0 ∨ k' = 1 ∨ k' = 2 ∨ k' = 3 := by omega
  clear h1 h2
  unfold mx at hx
  unfold my at hy
  refine ⟨rfl, ?_⟩
  rcases hk4 with rfl | rfl | rfl | rfl <;> rcases hk4' with rfl | rfl | rfl | rfl <;> simp at hx hy <;> first | omega | (refine ⟨rfl, ?_, ?_⟩ <;> omega)

/-- Where a bit of the layers begins: that of layer i. -/
def off (c : Bool) (l : Nat) : Nat → Nat
  | 0 => 0
  | i + 1 => off c l i + 8 * lng c l i
/-- The bit's number. -/
def at_ (c : Bool) (l i k j n : Nat) : Nat := off c l i + 2 * (lng c l i * k) + 2 * j + n
theorem off_mono {c : Bool} {l i i' : Nat} (h : i < i') : off c l i + 8 * lng c l i ≤ off c l i' := by
  induction i' with
  | zero => omega
  | succ m ih =>
    by_cases h1 : i = m
    · subst h1; exact Nat.le_refl _
    · have := ih (by omega)
      show _ ≤ off c l m + 8 * lng c l m
      omega
theorem at_lt {c : Bool} {l i k j n : Nat} (hk : k < 4) (hj : j < lng c l i) (hn : n < 2) : at_ c l i k j n < off c l i + 8 * lng c l i := by
  unfold at_
  have h4 : k = 0 ∨ k = 1 ∨ k = 2 ∨ k = 3 := by omega
  rcases h4 with rfl | rfl | rfl | rfl <;> omega
/-- All bits of the layers. -/
theorem off_sq (c : Bool) (l : Nat) : ∀ i, i ≤ l → off c l i + 16 * (i * i) = (32 * l + 16 + 8 * (if c then 9 else 12)) * i
  | 0, _ => by simp [off]
  | i + 1, h => by
    have ih := off_sq c l i (by omega)
    show off c l i + 8 * lng c l i + 16 * ((i + 1) * (i + 1)) = _
    have e1 : (i + 1) * (i + 1) = i * i + 2 * i + 1 := by rw [Nat.add_mul, Nat.mul_add]; omega
    rw [e1, Nat.mul_add _ i 1]
    have e2 : 8 * lng c l i + 32 * i = 32 * l + 8 * (if c then 9 else 12) := by unfold lng; omega
    omega
theorem off_l (c : Bool) (l : Nat) : off c l l = ((if c then 88 else 112) + 16 * l) * l := by
  have h := off_sq c l l (Nat.le_refl _)
  have e : (32 * l + 16 + 8 * (if c then 9 else 12)) * l = ((if c then 88 else 112) + 16 * l) * l + 16 * (l * l) := by
    rw [← Nat.mul_assoc, ← Nat.add_mul]
    congr 1
    cases c <;> simp <;> omega
  omega
/-- What has been laid: the grid's function behind so many writes. -/
def upd (g : Nat → Nat → Bool) (x y : Nat) (b : Bool) : Nat → Nat → Bool := fun x' y' => if x' = x ∧ y' = y then b else g x' y'
theorem upd_at (g : Nat → Nat → Bool) (x y : Nat) (b : Bool) : upd g x y b x y = b := by unfold upd; rw [if_pos ⟨rfl, rfl⟩]
theorem upd_ne {g : Nat → Nat → Bool} {x y : Nat} {b : Bool} {x' y' : Nat} (h : ¬ (x' = x ∧ y' = y)) : upd g x y b x' y' = g x' y' := by unfold upd; rw [if_neg h]
/-- A grid that holds the bits of all places before a place. -/
def Holds (c : Bool) (l : Nat) (B : Nat → Bool) (g : Nat → Nat → Bool) (t : Nat) : Prop :=
  ∀ i k j n, i < l → k < 4 → j < lng c l i → n < 2 → at_ c l i k j n < t → g (plc c l (mx c l i k j n)) (plc c l (my c l i k j n)) = B (at_ c l i k j n)
theorem Holds.zero (c : Bool) (l : Nat) (B : Nat → Bool) (g : Nat → Nat → Bool) : Holds c l B g 0 := fun _ _ _ _ _ _ _ _ h => by omega
theorem at_inj {c : Bool} {l i k j n i' k' j' n' : Nat} (hk : k < 4) (hj : j < lng c l i) (hn : n < 2) (hk' : k' < 4) (hj' : j' < lng c l i') (hn' : n' < 2) (h : at_ c l i k j n = at_ c l i' k' j' n') : i = i' ∧ k = k' ∧ j = j' ∧ n = n' := by
  have h1 := at_lt (c := c) (l := l) (i := i) hk hj hn
  have h2 := at_lt (c := c) (l := l) (i := i') hk' hj' hn'
  have g1 : off c l i ≤ at_ c l i k j n := by unfold at_; omega
  have g2 : off c l i' ≤ at_ c l i' k' j' n' := by unfold at_; omega
  have hii : i = i' := by
    rcases Nat.lt_trichotomy i i' with h3 | h3 | h3
    · have := off_mono (c := c) (l := l) h3; omega
    · exact h3
    · have := off_mono (c := c) (l := l) h3; omega
  subst hii
  refine ⟨rfl, ?_⟩
  unfold at_ at h
  have h4 : k = 0 ∨ k = 1 ∨ k = 2 ∨ k = 3 := by omega
  have h5 : k' = 0 ∨ k' = 1 ∨ k' = 2 ∨ k' = 3 := by omega
  rcases h4 with rfl | rfl | rfl | rfl <;> rcases h5 with rfl | rfl | rfl | rfl <;> omega
theorem Holds.step {c : Bool} {l : Nat} {B : Nat → Bool} {g : Nat → Nat → Bool} {i k j n : Nat} (hi : i < l) (hk : k < 4) (hj : j < lng c l i) (hn : n < 2) (h : Holds c l B g (at_ c l i k j n)) :
    Holds c l B (upd g (plc c l (mx c l i k j n)) (plc c l (my c l i k j n)) (B (at_ c l i k j n))) (at_ c l i k j n + 1) := fun i' k' j' n' hi' hk' hj' hn' ht => by
  by_cases he : at_ c l i' k' j' n' = at_ c l i k j n
  · obtain ⟨rfl, rfl, rfl, rfl⟩ := at_inj hk' hj' hn' hk hj hn he
    exact upd_at _ _ _ _
  · rw [upd_ne, h i' k' j' n' hi' hk' hj' hn' (by omega)]
    rintro ⟨h1, h2⟩
    have a := m_lt (c := c) hi hk hj hn
    have b := m_lt (c := c) hi' hk' hj' hn'
    obtain ⟨rfl, rfl, rfl, rfl⟩ := m_inj hi' hk' hj' hn' hi hk hj hn (plc_inj b.1 a.1 h1) (plc_inj b.2 a.2 h2)
    exact he rfl
end Go.Qz.AZ
namespace Go.Proofs.YtiielblnmfeapaaGreatDoor
open Go.RowKit Go.Qz Go.Qz.AZ
set_option linter.unusedVariables false

theorem Tryz.infoBoolsL : (Tryz.prog.info? 35).map (fun i => (i.zero, i.size, i.bytes)) = some (some (.slice none 0 0), 1, 24) := by kernel_rfl
theorem Tryz.infoBoolL : (Tryz.prog.info? 4).map (fun i => (i.zero, i.size, i.bytes)) = some (some (.bool false), 1, 1) := by kernel_rfl
theorem Tryz.infoIntL : (Tryz.prog.info? 3).map (fun i => (i.zero, i.size, i.bytes)) = some (some (.int .i64 0), 1, 8) := by kernel_rfl
def LightPost (W H : Nat) (w : World) (e : Ending) (w' : World) : Prop := ∃ G, e = .returned (.slice (some ⟨G, 0, none⟩) H H) ∧ Hid (Grid w' 35 4 G H W H (fun _ _ => .bool false)) ∧ Hid (Below w.heap.size w w') ∧ w.heap.size ≤ G
set_option maxRecDepth 100000 in
set_option maxHeartbeats 3200000 in
theorem biLight (W H : Nat) (hW : 0 < W) (hH : 0 < H) (hWl : W < 200) (hHl : H < 200) (w : World) :
    Calls Tryz.prog 18 #[.int .i64 W, .int .i64 H, .slice none 0 0] w (LightPost W H w) := by
  have hmkH := fun W => run_make1 (P := Tryz.prog) 32 35 (.slice none 0 0) 24 Tryz.underlying32 Tryz.infoBoolsL rfl (by decide) H (by omega) .i64 .i64 H rfl W
  have hmkW := fun X => run_make1 (P := Tryz.prog) 35 4 (.bool false) 1 Tryz.underlying35 Tryz.infoBoolL rfl (by decide) W (by omega) .i64 .i64 W rfl X
  have hg := Grid.zero (w := w) 35 4 H W (fun _ _ => .bool false)
  have hb0 : Below w.heap.size w (w.alloc (.cells (zeros H (.slice none 0 0)) 35)) := (Below.refl _ _).alloc (Nat.le_refl _) _
  have hs0 : (w.alloc (.cells (zeros H (.slice none 0 0)) 35)).heap.size = w.heap.size + 1 := by simp
  go_enter Tryz.func18, Tryz.ntmps18
  go_wp2_with fail
  obtain ⟨W3, hW3⟩ : ∃ W3, W3 = w.alloc (.cells (zeros H (.slice none 0 0)) 35) := ⟨_, rfl⟩
  rw [← hW3] at hg hb0 hs0 ⊢
  obtain ⟨G, hG⟩ : ∃ G, G = w.heap.size := ⟨_, rfl⟩
  rw [← hG] at hg hb0 hs0 ⊢
  have HG := Lib.hid hg
  have HB0 := Lib.hid hb0
  have HS0 : Hid (W3.heap.size = G + 1 + 0) := Lib.hid hs0
  have HGE := Lib.hid hG
  clear hW3 hg hb0 hs0 hG
  go_loopw [8] (fun i wr => ∃ k : Nat, k ≤ H ∧ i = .int .i64 k ∧ Hid (Grid wr 35 4 G H W k (fun _ _ => .bool false)) ∧ Hid (Below G w wr) ∧ Hid (wr.heap.size = G + 1 + k)) (fun i _ => H - (intOf i).toNat)
  case atStart => exact ⟨0, by omega, rfl, HG, HB0, HS0⟩
  case round =>
    obtain ⟨k, hk, rfl, HGK, HB, HS⟩ := hrel
    clear HG HB0 HS0
    obtain ⟨wi, hwi⟩ : ∃ wi, wi = wr := ⟨_, rfl⟩
    rw [← hwi] at HGK HB HS ⊢
    clear hwi
    by_cases hlt : k < H
    · have hk0 : (0 : Int) ≤ (k : Int) := by omega
      have hk1 : (k : Int) < (H : Int) := by omega
      have hck := HGK.out.hd.cell? k
      rw [hdr_get _ _ _ _ _ hlt, if_neg (by omega)] at hck
      have hck2 : (wi.alloc (.cells (zeros W (.bool false)) 4)).cell? ⟨G, k, none⟩ = some (.slice none 0 0) := (World.cell?_alloc_past _ _ _ HGK.out.hd.lt).trans hck
      have hfk2 : (wi.alloc (.cells (zeros W (.bool false)) 4)).frozen? ⟨G, k, none⟩ = false := (HGK.out.hd.mod (S := fun _ => False) ((Mod.refl _).alloc (.cells (zeros W (.bool false)) 4)) (fun h => h)).free k
      have hg3 := HGK.out.push (.bool false) (fun _ _ => rfl) HS.out
      have hb3 : Below G w ((wi.alloc (.cells (zeros W (.bool false)) 4)).setCell ⟨G, k, none⟩ (.slice (some ⟨G + 1 + k, 0, none⟩) W W)) := (HB.out.alloc (by have := HS.out; omega) _).setCell (p := ⟨G, k, none⟩) (Nat.le_refl _) _
      have hs3 : ((wi.alloc (.cells (zeros W (.bool false)) 4)).setCell ⟨G, k, none⟩ (.slice (some ⟨G + 1 + k, 0, none⟩) W W)).heap.size = G + 1 + (k + 1) := by have := HS.out; simp [World.setCell]; omega
      have hsz : wi.heap.size = G + 1 + k := HS.out
      have HG3 := Lib.hid hg3
      have HB3 := Lib.hid hb3
      have HS3 := Lib.hid hs3
      clear hck hg3 hb3 hs3 HGK HB HS
      go_wp2_with fail
      obtain ⟨W4, hW4⟩ : ∃ W4, W4 = (wi.alloc (.cells (zeros W (.bool false)) 4)).setCell ⟨G, k, none⟩ (.slice (some ⟨G + 1 + k, 0, none⟩) W W) := ⟨_, rfl⟩
      rw [← hW4] at HG3 HB3 HS3 ⊢
      clear hW4 hck2 hfk2 hsz
      go_loopw [9] (fun i wr => i = .int .i64 0 ∧ W4 = wr) (fun _ _ => 0)
      case atStart => exact ⟨rfl, rfl⟩
      case round =>
        obtain ⟨rfl, rfl⟩ := hrel
        go_wp2_with fail
        go_roundw
        case rel => exact ⟨k + 1, by omega, by go_num, HG3, HB3, HS3⟩
        case measure => simp [intOf]; omega
    · obtain rfl : k = H := by omega
      have hkk : ((k : Int) < (k : Int)) = False := by simp
      go_wp2_with fail
      go_ret
      exact ⟨G, rfl, HGK, by rw [← HGE.out]; exact HB, by rw [← HGE.out]; exact Nat.le_refl _⟩

set_option maxRecDepth 100000 in
theorem azSide (c : Bool) (l : Nat) (hl : l ≤ 100) (w : World) : Calls Tryz.prog 46 #[.bool c, .int .i64 l] w fun e w' => e = .returned (.int .i64 (sd c l : Nat)) ∧ w = w' := by
  cases c with
  | true =>
    obtain ⟨x, hx⟩ : ∃ x, x = sd true l := ⟨_, rfl⟩
    have e1 : (11 : Int) + 4 * (l : Int) = (x : Int) := by rw [hx]; unfold sd; simp
    rw [← hx]
    clear hx
    go_enter Tryz.func46, Tryz.ntmps46
    go_wp2_with fail
    go_ret
    exact ⟨rfl, rfl⟩
  | false =>
    obtain ⟨x, hx⟩ : ∃ x, x = sd false l := ⟨_, rfl⟩
    have e1 : (14 : Int) + 4 * (l : Int) = (x : Int) := by rw [hx]; unfold sd; simp
    rw [← hx]
    clear hx
    go_enter Tryz.func46, Tryz.ntmps46
    go_wp2_with fail
    go_ret
    exact ⟨rfl, rfl⟩
def pv (f : Nat → Nat) : Nat → Value := fun x => .int .i64 (f x : Nat)
def PlcPost (c : Bool) (l : Nat) (w : World) (e : Ending) (w' : World) : Prop := ∃ P, e = .returned (.tuple #[.slice (some ⟨P, 0, none⟩) (sd c l) (sd c l), .int .i64 (whole c l : Nat)]) ∧ Hid (Arr w' 3 P (rowV (pv (plc c l)) (sd c l))) ∧ Hid (Below w.heap.size w w') ∧ w.heap.size ≤ P
set_option maxRecDepth 100000 in
set_option maxHeartbeats 6400000 in
theorem azPlaces (c : Bool) (l : Nat) (hl1 : 1 ≤ l) (hl : l ≤ 32) (w : World) : Calls Tryz.prog 17 #[.bool c, .int .i64 l] w (PlcPost c l w) := by
  have HSD := Lib.hid (azSide c l (by omega) w)
  have hs : sd c l = (if c then 11 else 14) + 4 * l := rfl
  have hSb : 15 ≤ sd c l ∧ sd c l ≤ 142 := by rw [hs]; split <;> omega
  have HPL : Hid (∀ x, plc c l x = plc c l x) := Lib.hid (fun _ => rfl)
  have heven : c = false → sd c l % 2 = 0 := fun h => by rw [hs, h]; simp; omega
  obtain ⟨S, hS⟩ : ∃ S, S = sd c l := ⟨_, rfl⟩
  have hmk := fun W => run_make1 (P := Tryz.prog) 24 3 (.int .i64 0) 8 Tryz.underlying24 Tryz.infoIntL rfl (by decide) S (by omega) .i64 .i64 (S : Int) rfl W
  rw [← hS] at HSD hSb heven
  have HSE := Lib.hid hS
  unfold PlcPost
  rw [← hS]
  clear hS hs
  cases c with
  | true =>
    have HPT : Hid (∀ x, plc true l x = x) := Lib.hid (fun x => by unfold plc; rw [if_pos rfl])
    have hw : whole true l = S := by rw [HSE.out]; unfold whole; rw [if_pos rfl]
    rw [hw]
    clear heven hw HPL
    go_enter Tryz.func17, Tryz.ntmps17
    go_wp2_with fail
    refine HSD.out.mono ?_
    rintro e w1 ⟨rfl, rfl⟩
    go_wp2_with fail
    have hA := Arr.new w 3 (List.replicate S (.int .i64 0))
    have hb : Below w.heap.size w (w.alloc (.cells (zeros S (.int .i64 0)) 3)) := (Below.refl _ _).alloc (Nat.le_refl _) _
    obtain ⟨W1, hW1⟩ : ∃ W1, W1 = w.alloc (.cells (zeros S (.int .i64 0)) 3) := ⟨_, rfl⟩
    have hA2 : Arr W1 3 w.heap.size (List.replicate S (.int .i64 0)) := by rw [hW1]; exact hA
    rw [← hW1] at hb ⊢
    obtain ⟨P, hP⟩ : ∃ P, P = w.heap.size := ⟨_, rfl⟩
    rw [← hP] at hA2 hb ⊢
    have HA : Hid (Arr W1 3 P (rowV (fun x => if x < 0 then .int .i64 (x : Nat) else .int .i64 0) S)) := Lib.hid (by
      rw [rowV_congr (g := fun _ => .int .i64 0) (fun x _ => by simp), rowV_const]; exact hA2)
    have HB := Lib.hid hb
    have HPE := Lib.hid hP
    clear hA hW1 hA2 hb hP hmk
    go_loopw [8] (fun i wr => ∃ k : Nat, k ≤ S ∧ i = .int .i64 k ∧ Hid (Arr wr 3 P (rowV (fun x => if x < k then .int .i64 (x : Nat) else .int .i64 0) S)) ∧ Hid (Below P w wr)) (fun i _ => S - (intOf i).toNat)
    case atStart => exact ⟨0, Nat.zero_le _, rfl, HA, HB⟩
    case round =>
      obtain ⟨k, hk, rfl, HA2, HB2⟩ := hrel
      clear HA HB
      by_cases hlt : k < S
      · have hki : (k : Int) < (S : Int) := by omega
        have hk0 : (0 : Int) ≤ (k : Int) := by omega
        have cc := HA2.out.cell? k
        rw [rowV_get _ _ _ hlt, if_neg (by omega)] at cc
        have hf := HA2.out.free k
        have HA3 : Hid (Arr (wr.setCell ⟨P, k, none⟩ (.int .i64 k)) 3 P (rowV (fun x => if x < k + 1 then .int .i64 (x : Nat) else .int .i64 0) S)) := Lib.hid (by
          rw [← rowV_set (f := fun x => if x < k then Value.int .i64 (x : Nat) else .int .i64 0) (c := k) (v := .int .i64 k) (fun j hj => by
            by_cases h9 : j = k
            · subst h9; rw [if_pos (by omega), if_pos rfl]
            · rw [if_neg h9]
              by_cases h8 : j < k
              · rw [if_pos h8, if_pos (by omega)]
              · rw [if_neg h8, if_neg (by omega)])]
          exact HA2.out.set_ k _)
        have HB3 : Hid (Below P w (wr.setCell ⟨P, k, none⟩ (.int .i64 k))) := Lib.hid (HB2.out.setCell (p := ⟨P, k, none⟩) (Nat.le_refl _) _)
        clear HA2 HB2
        go_wp2_with fail
        go_roundw
        case rel => exact ⟨k + 1, by omega, by go_num, HA3, HB3⟩
        case measure => simp [intOf]; omega
      · obtain rfl : k = S := by omega
        have hkk : ((k : Int) < (k : Int)) = False := by simp
        go_wp2_with fail
        go_ret2
        exact ⟨P, rfl, Lib.hid (by
          rw [rowV_congr (g := fun x => if x < k then Value.int .i64 (x : Nat) else .int .i64 0) (fun j hj => by unfold pv; (try dsimp only); rw [HPT.out, if_pos hj])]
          exact HA2.out), by rw [← HPE.out]; exact HB2, by rw [← HPE.out]; exact Nat.le_refl _⟩
  | false =>
    have hev := heven rfl
    obtain ⟨h, hh⟩ : ∃ h, h = S / 2 := ⟨_, rfl⟩
    have hS2 : S = 2 * h := by omega
    obtain ⟨h1, hh1⟩ : ∃ x, x = h - 1 := ⟨_, rfl⟩
    obtain ⟨q, hq⟩ : ∃ x, x = h1 / 15 := ⟨_, rfl⟩
    obtain ⟨q2, hq2⟩ : ∃ x, x = 2 * q := ⟨_, rfl⟩
    obtain ⟨s1, hs1⟩ : ∃ x, x = S + 1 := ⟨_, rfl⟩
    obtain ⟨wv, hwv⟩ : ∃ x, x = s1 + q2 := ⟨_, rfl⟩
    obtain ⟨c0, hc0⟩ : ∃ x, x = wv / 2 := ⟨_, rfl⟩
    have hc0' : c0 = h + q := by omega
    have hwhole : whole false l = wv := by unfold whole; rw [← HSE.out, if_neg (by simp), ← hh]; omega
    have HPX : Hid (∀ x, plc false l x = if x < h then c0 - ((h - 1 - x) + (h - 1 - x) / 15) - 1 else c0 + ((x - h) + (x - h) / 15) + 1) := Lib.hid (fun x => by
      unfold plc
      rw [if_neg (by simp), ← HSE.out, ← hh, hwhole, ← hc0])
    rw [hwhole]
    have i1 : (S : Int) / 2 = (h : Int) := by omega
    have i1' : (S : Int).tdiv 2 = (h : Int) := by rw [Int.tdiv_eq_ediv_of_nonneg (by omega)]; omega
    have i2 : (h : Int) - 1 = (h1 : Int) := by omega
    have i3 : (h1 : Int) / 15 = (q : Int) := by omega
    have i3' : (h1 : Int).tdiv 15 = (q : Int) := by rw [Int.tdiv_eq_ediv_of_nonneg (by omega)]; omega
    have i4 : (2 : Int) * (q : Int) = (q2 : Int) := by omega
    have i5 : (S : Int) + 1 = (s1 : Int) := by omega
    have i6 : (s1 : Int) + (q2 : Int) = (wv : Int) := by omega
    have i7 : (wv : Int) / 2 = (c0 : Int) := by omega
    have i7' : (wv : Int).tdiv 2 = (c0 : Int) := by rw [Int.tdiv_eq_ediv_of_nonneg (by omega)]; omega
    have hb9 : h ≤ 71 ∧ wv ≤ 200 ∧ q ≤ 5 ∧ s1 ≤ 143 ∧ q2 ≤ 10 := by omega
    have HQ := Lib.hid (And.intro hc0' (And.intro hq (And.intro hh1 hS2)))
    clear heven hev HPL hwhole hh hh1 hq hq2 hs1 hwv hc0 hc0' hS2
    go_enter Tryz.func17, Tryz.ntmps17
    go_wp2_with fail
    refine HSD.out.mono ?_
    rintro e w1 ⟨rfl, rfl⟩
    go_wp2_with fail
    have hA := Arr.new w 3 (List.replicate S (.int .i64 0))
    have hb : Below w.heap.size w (w.alloc (.cells (zeros S (.int .i64 0)) 3)) := (Below.refl _ _).alloc (Nat.le_refl _) _
    obtain ⟨W1, hW1⟩ : ∃ W1, W1 = w.alloc (.cells (zeros S (.int .i64 0)) 3) := ⟨_, rfl⟩
    have hA2 : Arr W1 3 w.heap.size (List.replicate S (.int .i64 0)) := by rw [hW1]; exact hA
    rw [← hW1] at hb ⊢
    obtain ⟨P, hP⟩ : ∃ P, P = w.heap.size := ⟨_, rfl⟩
    rw [← hP] at hA2 hb ⊢
    have HA : Hid (Arr W1 3 P (rowV (pv (fun x => if h - 0 ≤ x ∧ x < h + 0 then plc false l x else 0)) S)) := Lib.hid (by
      rw [rowV_congr (g := fun _ => .int .i64 0) (fun x _ => by unfold pv; (try dsimp only); rw [if_neg (by omega)]; rfl), rowV_const]; exact hA2)
    have HB := Lib.hid hb
    have HPE := Lib.hid hP
    clear hA hW1 hA2 hb hP hmk
    go_loopw [10] (fun i wr => ∃ k : Nat, k ≤ h ∧ i = .int .i64 k ∧ Hid (Arr wr 3 P (rowV (pv (fun x => if h - k ≤ x ∧ x < h + k then plc false l x else 0)) S)) ∧ Hid (Below P w wr)) (fun i _ => h - (intOf i).toNat)
    case atStart => exact ⟨0, Nat.zero_le _, rfl, HA, HB⟩
    case round =>
      obtain ⟨k, hk, rfl, HA2, HB2⟩ := hrel
      clear HA HB
      obtain ⟨wi, hwi⟩ : ∃ wi, wi = wr := ⟨_, rfl⟩
      rw [← hwi] at HA2 HB2 ⊢
      clear hwi
      by_cases hlt : k < h
      · have hki : (k : Int) < (h : Int) := by omega
        have hk0 : (0 : Int) ≤ (k : Int) := by omega
        obtain ⟨hc0, hqq, hhh, hS2⟩ := HQ.out
        obtain ⟨k15, hk15⟩ : ∃ x, x = k / 15 := ⟨_, rfl⟩
        obtain ⟨mo, hmo⟩ : ∃ x, x = k + k15 := ⟨_, rfl⟩
        have hkq : k15 ≤ q := by rw [hk15, hqq]; exact Nat.div_le_div_right (by omega)
        obtain ⟨a1, ha1⟩ : ∃ x, x = h - k := ⟨_, rfl⟩
        obtain ⟨a2, ha2⟩ : ∃ x, x = a1 - 1 := ⟨_, rfl⟩
        obtain ⟨b1, hb1⟩ : ∃ x, x = c0 - mo := ⟨_, rfl⟩
        obtain ⟨b2, hb2⟩ : ∃ x, x = b1 - 1 := ⟨_, rfl⟩
        obtain ⟨d1, hd1⟩ : ∃ x, x = h + k := ⟨_, rfl⟩
        obtain ⟨e1, he1⟩ : ∃ x, x = c0 + mo := ⟨_, rfl⟩
        obtain ⟨e2, he2⟩ : ∃ x, x = e1 + 1 := ⟨_, rfl⟩
        have j1 : (k : Int) / 15 = (k15 : Int) := by omega
        have j1' : (k : Int).tdiv 15 = (k15 : Int) := by rw [Int.tdiv_eq_ediv_of_nonneg (by omega)]; omega
        have j2 : (k : Int) + (k15 : Int) = (mo : Int) := by omega
        have j3 : (h : Int) - (k : Int) = (a1 : Int) := by omega
        have j4 : (a1 : Int) - 1 = (a2 : Int) := by omega
        have j5 : (c0 : Int) - (mo : Int) = (b1 : Int) := by omega
        have j6 : (b1 : Int) - 1 = (b2 : Int) := by omega
        have j7 : (h : Int) + (k : Int) = (d1 : Int) := by omega
        have j8 : (c0 : Int) + (mo : Int) = (e1 : Int) := by omega
        have j9 : (e1 : Int) + 1 = (e2 : Int) := by omega
        have ha2S : a2 < S := by omega
        have ha2i : (a2 : Int) < (S : Int) := by omega
        have ha20 : (0 : Int) ≤ (a2 : Int) := by omega
        have hd1S : d1 < S := by omega
        have hd1i : (d1 : Int) < (S : Int) := by omega
        have hd10 : (0 : Int) ≤ (d1 : Int) := by omega
        have hp1 : plc false l a2 = b2 := by
          rw [HPX.out, if_pos (by omega), show h - 1 - a2 = k by omega, ← hk15]; omega
        have hp2 : plc false l d1 = e2 := by
          rw [HPX.out, if_neg (by omega), show d1 - h = k by omega, ← hk15]; omega
        have cc := HA2.out.cell? a2
        rw [rowV_get _ _ _ ha2S] at cc
        unfold pv at cc
        try dsimp only at cc
        rw [if_neg (by omega)] at cc
        have hf := HA2.out.free a2
        have hA3 : Arr (wi.setCell ⟨P, a2, none⟩ (.int .i64 b2)) 3 P (rowV (pv (fun x => if x = a2 ∨ (h - k ≤ x ∧ x < h + k) then plc false l x else 0)) S) := by
          rw [← rowV_set (f := pv (fun x => if h - k ≤ x ∧ x < h + k then plc false l x else 0)) (c := a2) (v := .int .i64 b2) (fun j hj => by
            unfold pv
            try dsimp only
            by_cases h9 : j = a2
            · rw [if_pos h9, if_pos (.inl h9), h9, hp1]
            · rw [if_neg h9]
              by_cases h8 : h - k ≤ j ∧ j < h + k
              · rw [if_pos h8, if_pos (.inr h8)]
              · rw [if_neg h8, if_neg (by omega)])]
          exact HA2.out.set_ a2 _
        have cd := hA3.cell? d1
        rw [rowV_get _ _ _ hd1S] at cd
        unfold pv at cd
        try dsimp only at cd
        rw [if_neg (by omega)] at cd
        have hfd := hA3.free d1
        have HA4 : Hid (Arr ((wi.setCell ⟨P, a2, none⟩ (.int .i64 b2)).setCell ⟨P, d1, none⟩ (.int .i64 e2)) 3 P (rowV (pv (fun x => if h - (k + 1) ≤ x ∧ x < h + (k + 1) then plc false l x else 0)) S)) := Lib.hid (by
          rw [← rowV_set (f := pv (fun x => if x = a2 ∨ (h - k ≤ x ∧ x < h + k) then plc false l x else 0)) (c := d1) (v := .int .i64 e2) (fun j hj => by
            unfold pv
            try dsimp only
            by_cases h9 : j = d1
            · rw [if_pos h9, if_pos (by omega), h9, hp2]
            · rw [if_neg h9]
              by_cases h8 : j = a2 ∨ (h - k ≤ j ∧ j < h + k)
              · rw [if_pos h8, if_pos (by omega)]
              · rw [if_neg h8, if_neg (by omega)])]
          exact hA3.set_ d1 _)
        have HB4 : Hid (Below P w ((wi.setCell ⟨P, a2, none⟩ (.int .i64 b2)).setCell ⟨P, d1, none⟩ (.int .i64 e2))) := Lib.hid ((HB2.out.setCell (p := ⟨P, a2, none⟩) (Nat.le_refl _) _).setCell (p := ⟨P, d1, none⟩) (Nat.le_refl _) _)
        have hbnd : mo ≤ 80 ∧ e2 ≤ 300 := by omega
        clear hc0 hqq hhh hS2 hk15 hmo hkq ha1 ha2 hb1 hb2 hd1 he1 he2 hp1 hp2 hA3 HA2 HB2
        go_wp2_with fail
        go_roundw
        case rel => exact ⟨k + 1, by omega, by go_num, HA4, HB4⟩
        case measure => simp [intOf]; omega
      · obtain rfl : k = h := by omega
        have hkk : ((k : Int) < (k : Int)) = False := by simp
        have HA5 : Hid (Arr wi 3 P (rowV (pv (plc false l)) S)) := Lib.hid (by
          have hS2 := HQ.out.2.2.2
          rw [rowV_congr (g := pv (fun x => if k - k ≤ x ∧ x < k + k then plc false l x else 0)) (fun j hj => by unfold pv; (try dsimp only); rw [if_pos (by omega)])]
          exact HA2.out)
        clear HA2
        go_wp2_with fail
        go_ret2
        exact ⟨P, rfl, HA5, by rw [← HPE.out]; exact HB2, by rw [← HPE.out]; exact Nat.le_refl _⟩
end Go.Proofs.YtiielblnmfeapaaGreatDoor
