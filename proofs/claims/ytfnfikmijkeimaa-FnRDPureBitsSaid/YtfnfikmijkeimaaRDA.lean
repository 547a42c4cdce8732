/-
  Data Matrix placement, walked: put, utah, corner, corners. No condition beyond the bounds that each theorem states.
-/
import Derived.Test.YtfnfikmijkeimaaRDP
import Derived.Test.YtfnfikmijkeimaaBGR
import Derived.Test.YtfnfikmijkeimaaGRD
import Derived.Deep.RegionHeld3
import Derived.BigQuiet
namespace Go.Proofs.Ytfnfikmijkeimaa
open Go.RowKit Go.Qz Go.Qz.RD
set_option linter.unusedVariables false

/-- A placement in memory: p: the struct; hb: the headers of the rows; row r lies in block bl r. -/
structure PL (w : World) (p hb R C cap : Nat) (bl : Nat → Nat) (wd : Nat) (f : Nat → Nat → Int) : Prop where
  hp : Arr w 57 p [.int .i64 R, .int .i64 C, .int .i64 wd, .slice (some ⟨hb, 0, none⟩) R cap]
  hd : ∀ r, r < R → w.cell? ⟨hb, r, none⟩ = some (.slice (some ⟨bl r, 0, none⟩) C C)
  row : ∀ r, r < R → Arr w 3 (bl r) (rowV (fun c => .int .i64 (f r c)) C)
  hlt : hb < w.heap.size
  inj : ∀ r s, r < R → s < R → bl r = bl s → r = s
  np : ∀ r, r < R → bl r ≠ p
  nh : ∀ r, r < R → bl r ≠ hb
  ph : hb ≠ p
/-- The blocks that a placement writes. -/
def WS (p R : Nat) (bl : Nat → Nat) (k : Nat) : Prop := k = p ∨ ∃ r, r < R ∧ k = bl r
def upd2 (f : Nat → Nat → Int) (a b : Nat) (v : Int) : Nat → Nat → Int := fun r c => if r = a ∧ c = b then v else f r c
/-- What stands in a placement is a number that is not great. -/
def Bd (f : Nat → Nat → Int) : Prop := ∀ r c, -1 ≤ f r c ∧ f r c ≤ 10000000000
/-- What has been placed stays. -/
def Mono (f g : Nat → Nat → Int) : Prop := (∀ r c, 0 ≤ f r c → 0 ≤ g r c) ∧ (Bd f → Bd g)
theorem Mono.refl (f : Nat → Nat → Int) : Mono f f := ⟨fun _ _ h => h, fun h => h⟩
theorem Mono.trans {f g h : Nat → Nat → Int} (a : Mono f g) (b : Mono g h) : Mono f h := ⟨fun r c x => b.1 r c (a.1 r c x), fun x => b.2 (a.2 x)⟩
theorem Mono.upd2 (f : Nat → Nat → Int) (a b : Nat) (v : Int) (hv : 0 ≤ v) (hv2 : v ≤ 10000000000) : Mono f (upd2 f a b v) := ⟨fun r c h => by
  unfold Go.Proofs.Ytfnfikmijkeimaa.upd2; split <;> assumption, fun h r c => by
  unfold Go.Proofs.Ytfnfikmijkeimaa.upd2; split
  · omega
  · exact h r c⟩
section
variable {w w' : World} {p hb R C cap wd : Nat} {bl : Nat → Nat} {f : Nat → Nat → Int}
theorem PL.put (h : PL w p hb R C cap bl wd f) (a b : Nat) (ha : a < R) (v : Int) : PL (w.setCell ⟨bl a, b, none⟩ (.int .i64 v)) p hb R C cap bl wd (upd2 f a b v) := by
  have hm := Mod.set1 w (bl a) b (.int .i64 v)
  refine ⟨h.hp.mod hm (h.np a ha).symm, fun r hr => ?_, fun r hr => ?_, by simpa [World.setCell] using h.hlt, h.inj, h.np, h.nh, h.ph⟩
  · rw [← h.hd r hr]
    exact World.cell?_of_block (w := w) (hm.block _ h.hlt (h.nh a ha).symm)
  · by_cases e : r = a
    · subst e
      have := (h.row r hr).set_ b (.int .i64 v)
      rw [rowV_set (g := fun c => .int .i64 (upd2 f r b v r c)) (fun j hj => by unfold upd2; by_cases e : j = b <;> simp [e])] at this
      exact this
    · have := (h.row r hr).mod hm (fun hh => e (h.inj r a hr ha hh))
      rw [rowV_congr (g := fun c => .int .i64 (upd2 f a b v r c)) (fun j hj => by unfold upd2; rw [if_neg (fun h => e h.1)])] at this
      exact this
theorem PL.word (h : PL w p hb R C cap bl wd f) (n : Nat) : PL (w.setCell ⟨p, 2, none⟩ (.int .i64 n)) p hb R C cap bl n f := by
  have hm := Mod.set1 w p 2 (.int .i64 n)
  refine ⟨h.hp.set_ 2 _, fun r hr => ?_, fun r hr => (h.row r hr).mod hm (h.np r hr), by simpa [World.setCell] using h.hlt, h.inj, h.np, h.nh, h.ph⟩
  rw [← h.hd r hr]
  exact World.cell?_of_block (w := w) (hm.block _ h.hlt h.ph)
theorem PL.at_ (h : PL w p hb R C cap bl wd f) (r c : Nat) (hr : r < R) (hc : c < C) : w.cell? ⟨bl r, c, none⟩ = some (.int .i64 (f r c)) := by
  rw [(h.row r hr).cell?, rowV_get _ _ _ hc]
theorem PL.free (h : PL w p hb R C cap bl wd f) (r c : Nat) (hr : r < R) : w.frozen? ⟨bl r, c, none⟩ = false := (h.row r hr).free c
theorem PL.c0 (h : PL w p hb R C cap bl wd f) : w.cell? ⟨p, 0, none⟩ = some (.int .i64 R) := by have := h.hp.cell? 0; simpa using this
theorem PL.c1 (h : PL w p hb R C cap bl wd f) : w.cell? ⟨p, 1, none⟩ = some (.int .i64 C) := by have := h.hp.cell? 1; simpa using this
theorem PL.c2 (h : PL w p hb R C cap bl wd f) : w.cell? ⟨p, 2, none⟩ = some (.int .i64 wd) := by have := h.hp.cell? 2; simpa using this
theorem PL.c3 (h : PL w p hb R C cap bl wd f) : w.cell? ⟨p, 3, none⟩ = some (.slice (some ⟨hb, 0, none⟩) R cap) := by have := h.hp.cell? 3; simpa using this
theorem PL.below (h : PL w p hb R C cap bl wd f) (hb' : Below w.heap.size w w') : PL w' p hb R C cap bl wd f :=
  ⟨h.hp.below hb' h.hp.lt, fun r hr => (hb'.cell (p := ⟨hb, r, none⟩) h.hlt).trans (h.hd r hr), fun r hr => (h.row r hr).below hb' (h.row r hr).lt, Nat.lt_of_lt_of_le h.hlt hb'.size, h.inj, h.np, h.nh, h.ph⟩
end
theorem PL.drewN {w : World} {p hb R C cap wd : Nat} {bl : Nat → Nat} {f : Nat → Nat → Int} (h : PL w p hb R C cap bl wd f) (n : Nat) : PL (w.drewN n) p hb R C cap bl wd f := h.below (below_drewN (Below.refl _ _) n)
/-- What a step of the placement does. -/
def PutPost (w : World) (p hb R C cap : Nat) (bl : Nat → Nat) (wd wd2 : Nat) (f : Nat → Nat → Int) (Z : (Nat → Nat → Int) → Prop) (e : Ending) (w' : World) : Prop :=
  e = .returned (.tuple #[]) ∧ ∃ f' n, Hid (PL w' p hb R C cap bl n f') ∧ Hid (Mono f f') ∧ Hid (Z f') ∧ Hid (wd ≤ n ∧ n ≤ wd2) ∧ Hid (Mod (WS p R bl) w w')

set_option maxRecDepth 100000 in
set_option maxHeartbeats 3200000 in
theorem dm_put (p hb R C cap wd bit : Nat) (bl : Nat → Nat) (f : Nat → Nat → Int) (r c : Int) (a b : Nat) (ha : tr R C r c = a) (hb2 : tc R C r c = b) (haR : a < R) (hbC : b < C)
    (hR : R < 1000) (hC : C < 1000) (hwd : wd < 1000000000) (hbit : bit < 8) (hr0 : -(R : Int) ≤ r) (hr1 : r < 1000) (hc0 : -1000 < c) (hc1 : c < 1000) (w : World) (h : PL w p hb R C cap bl wd f) :
    Calls Try.prog 34 #[.pointer (some ⟨p, 0, none⟩), .int .i64 r, .int .i64 c, .int .i64 bit] w (PutPost w p hb R C cap bl wd wd f (fun f' => 0 ≤ f' a b)) := by
  have HP : Hid (∀ n m, PutPost w p hb R C cap bl wd wd f (fun f' => 0 ≤ f' a b) (.returned (.tuple #[])) (((w.drewN n).setCell ⟨bl a, b, none⟩ (.int .i64 ((8 * wd + bit : Nat) : Int))).drewN m)) := Lib.hid (fun n m => ⟨rfl, _, wd, Lib.hid (((h.drewN n).put a b haR _).drewN m), Lib.hid (Mono.upd2 f a b _ (by omega) (by omega)), Lib.hid (by unfold upd2; simp; omega), Lib.hid ⟨Nat.le_refl _, Nat.le_refl _⟩, Lib.hid (Mod.drewN ((((Mod.refl w).drewN n).trans (Mod.set1 (w.drewN n) (bl a) b _)).mono (fun k _ hk => .inr ⟨a, haR, hk⟩)) m)⟩)
  have p0 := h.c0
  have p1 := h.c1
  have p2 := h.c2
  have p3 := h.c3
  have ph := h.hd a haR
  have pc := h.at_ a b haR hbC
  have pf := h.free a b haR
  obtain ⟨v, hv⟩ : ∃ v : Nat, v = 8 * wd + bit := ⟨_, rfl⟩
  rw [← hv] at HP
  have ev : (8 : Int) * (wd : Int) + (bit : Int) = (v : Int) := by omega
  have ev1 : IntKind.i64.wrap ((8 : Int) * (wd : Int)) = (8 : Int) * (wd : Int) := by rw [IntKind.wrap_i64]; omega
  have ev2 : IntKind.i64.wrap (v : Int) = (v : Int) := by rw [IntKind.wrap_i64]; omega
  obtain ⟨k, hk⟩ : ∃ k : Int, k = ((R : Int) + 4) % 8 := ⟨_, rfl⟩
  obtain ⟨l, hl⟩ : ∃ k : Int, k = ((C : Int) + 4) % 8 := ⟨_, rfl⟩
  have ek : ((R : Int) + 4).tmod 8 = k := by rw [Int.tmod_eq_emod_of_nonneg (by omega), hk]
  have el : ((C : Int) + 4).tmod 8 = l := by rw [Int.tmod_eq_emod_of_nonneg (by omega), hl]
  have ek2 : ((R : Int) + 4) % 8 = k := hk.symm
  have el2 : ((C : Int) + 4) % 8 = l := hl.symm
  have hremk := fun W => rem_run ((R : Int) + 4) 8 k (by omega) ek W
  have hreml := fun W => rem_run ((C : Int) + 4) 8 l (by omega) el W
  have kb : 0 ≤ k ∧ k < 8 := by omega
  have lb : 0 ≤ l ∧ l < 8 := by omega
  have ewR : IntKind.i64.wrap ((R : Int) + 4) = (R : Int) + 4 := by rw [IntKind.wrap_i64]; omega
  have ewC : IntKind.i64.wrap ((C : Int) + 4) = (C : Int) + 4 := by rw [IntKind.wrap_i64]; omega
  have ha0 : (0 : Int) ≤ (a : Int) := by omega
  have ha1 : (a : Int) < (R : Int) := by omega
  have hb0 : (0 : Int) ≤ (b : Int) := by omega
  have hb1 : (b : Int) < (C : Int) := by omega
  unfold tr b1 a1 at ha
  unfold tc b1 at hb2
  have HH := Lib.hid h
  have wa : IntKind.i64.wrap (a : Int) = (a : Int) := by rw [IntKind.wrap_i64]; omega
  have wb : IntKind.i64.wrap (b : Int) = (b : Int) := by rw [IntKind.wrap_i64]; omega
  clear hv hk hl ek el h
  by_cases hr : r < 0
  · have hrr : decide (r < 0) = true := by simpa using hr
    simp only [if_pos hr, ek2, el2] at ha hb2
    have e1 : r + (R : Int) = ((r + R).toNat : Nat) := by omega
    obtain ⟨s, hs⟩ : ∃ s, s = (r + R).toNat := ⟨_, rfl⟩
    rw [← hs] at e1
    have ws : IntKind.i64.wrap (s : Int) = (s : Int) := by rw [IntKind.wrap_i64]; omega
    have w1 : IntKind.i64.wrap (r + (R : Int)) = (s : Int) := by rw [e1, ws]
    have w2 : IntKind.i64.wrap (c + 4) = c + 4 := by rw [IntKind.wrap_i64]; omega
    obtain ⟨d, hd⟩ : ∃ d, d = c + 4 - k := ⟨_, rfl⟩
    have e2 : c + 4 - k = d := hd.symm
    have wd2 : IntKind.i64.wrap d = d := by rw [IntKind.wrap_i64]; omega
    have w3 : IntKind.i64.wrap (c + 4 - k) = d := by rw [e2, wd2]
    rw [e2] at ha hb2
    rw [e1] at ha
    have sz0 : (0 : Int) ≤ (s : Int) := by omega
    have sz1 : (s : Int) < 3000 := by omega
    have dz0 : (-2000 : Int) ≤ d := by omega
    have dz1 : d < 3000 := by omega
    by_cases hd0 : d < 0
    · have hdd : decide (d < 0) = true := by simpa using hd0
      rw [if_pos hd0] at ha hb2
      have w4 : IntKind.i64.wrap (d + (C : Int)) = (b : Int) := by rw [hb2, IntKind.wrap_i64]; omega
      have w5 : IntKind.i64.wrap ((s : Int) + 4) = (s : Int) + 4 := by rw [IntKind.wrap_i64]; omega
      have w6 : IntKind.i64.wrap ((s : Int) + 4 - l) = (a : Int) := by rw [ha, IntKind.wrap_i64]; omega
      clear hs hd e2 hR hC
      go_enter Try.func34, Try.ntmps34
      go_wp2_with fail
      go_quiet (fail)
      go_wp2_with fail
      go_quiet (fail)
      go_wp2_with fail
      go_region
      go_wp2_with fail
      go_end0
      first | exact HP.out _ 0 | exact HP.out 0 1
    · have hdd : decide (d < 0) = false := by simpa using hd0
      rw [if_neg hd0] at ha hb2
      obtain rfl : s = a := by omega
      subst hb2
      clear hs hd e2 hR hC
      go_enter Try.func34, Try.ntmps34
      go_wp2_with fail
      go_quiet (fail)
      go_wp2_with fail
      go_region
      go_wp2_with fail
      go_end0
      first | exact HP.out _ 0 | exact HP.out 0 1
  · have hrr : decide (r < 0) = false := by simpa using hr
    simp only [if_neg hr, ek2, el2] at ha hb2
    by_cases hd0 : c < 0
    · have hdd : decide (c < 0) = true := by simpa using hd0
      rw [if_pos hd0] at ha hb2
      have w4 : IntKind.i64.wrap (c + (C : Int)) = (b : Int) := by rw [hb2, IntKind.wrap_i64]; omega
      have w5 : IntKind.i64.wrap (r + 4) = r + 4 := by rw [IntKind.wrap_i64]; omega
      have w6 : IntKind.i64.wrap (r + 4 - l) = (a : Int) := by rw [ha, IntKind.wrap_i64]; omega
      clear hR hC
      go_enter Try.func34, Try.ntmps34
      go_wp2_with fail
      go_quiet (fail)
      go_wp2_with fail
      go_region
      go_wp2_with fail
      go_end0
      first | exact HP.out _ 0 | exact HP.out 0 1
    · have hdd : decide (c < 0) = false := by simpa using hd0
      rw [if_neg hd0] at ha hb2
      subst ha hb2
      clear hR hC
      go_enter Try.func34, Try.ntmps34
      go_wp2_with fail
      go_region
      go_wp2_with fail
      go_end0
      first | exact HP.out _ 0 | exact HP.out 0 1

theorem dm_putI (p hb R C cap wd bit : Nat) (bl : Nat → Nat) (f : Nat → Nat → Int) (r c : Int) (B : Int) (hB : B = bit) (hin : In R C r c)
    (hR : R < 1000) (hC : C < 1000) (hwd : wd < 1000000000) (hbit : bit < 8) (hr0 : -(R : Int) ≤ r) (hr1 : r < 1000) (hc0 : -1000 < c) (hc1 : c < 1000) (w : World) (h : Hid (PL w p hb R C cap bl wd f)) :
    Calls Try.prog 34 #[.pointer (some ⟨p, 0, none⟩), .int .i64 r, .int .i64 c, .int .i64 B] w (PutPost w p hb R C cap bl wd wd f (fun f' => 0 ≤ f' (tr R C r c).toNat (tc R C r c).toNat)) := by
  obtain ⟨h0, h1, h2, h3⟩ := hin
  subst hB
  exact dm_put p hb R C cap wd bit bl f r c _ _ (by omega) (by omega) (by omega) (by omega) hR hC hwd hbit hr0 hr1 hc0 hc1 w h.out
set_option maxRecDepth 100000 in
set_option maxHeartbeats 3200000 in
theorem dm_utah (p hb R C cap wd : Nat) (bl : Nat → Nat) (f : Nat → Nat → Int) (r c : Int) (hr0 : 0 ≤ r) (hrR : r < R) (hc0 : 0 ≤ c) (hcC : c < C)
    (hin : ∀ i j : Int, ((i = 2 ∧ j = 2) ∨ (i = 2 ∧ j = 1) ∨ (i = 1 ∧ j = 2) ∨ (i = 1 ∧ j = 1) ∨ (i = 1 ∧ j = 0) ∨ (i = 0 ∧ j = 2) ∨ (i = 0 ∧ j = 1) ∨ (i = 0 ∧ j = 0)) → In R C (r - i) (c - j))
    (hR2 : 6 ≤ R) (hR : R < 1000) (hC : C < 1000) (hwd : wd < 100000000) (w : World) (h : PL w p hb R C cap bl wd f) :
    Calls Try.prog 23 #[.pointer (some ⟨p, 0, none⟩), .int .i64 r, .int .i64 c] w (PutPost w p hb R C cap bl wd (wd + 1) f (fun _ => True)) := by
  have HU := Lib.hid (fun (x y : Int) (B : Int) (bit : Nat) (hB : B = bit) (hb' : bit < 8) (hi : In R C x y) (hx : -2 ≤ x ∧ x ≤ r) (hy : -2 ≤ y ∧ y ≤ c) (f : Nat → Nat → Int) (W : World) (hW : Hid (PL W p hb R C cap bl wd f)) =>
    dm_putI p hb R C cap wd bit bl f x y B hB hi hR hC (by omega) hb' (by omega) (by omega) (by omega) (by omega) W hW)
  have i22 := Lib.hid (hin 2 2 (by omega))
  have i21 := Lib.hid (hin 2 1 (by omega))
  have i12 := Lib.hid (hin 1 2 (by omega))
  have i11 := Lib.hid (hin 1 1 (by omega))
  have i10 := hin 1 0 (by omega)
  have i02 := hin 0 2 (by omega)
  have i01 := hin 0 1 (by omega)
  have i00 := hin 0 0 (by omega)
  rw [Int.sub_zero] at i10 i02 i01 i00
  rw [Int.sub_zero] at i00
  have r2 : IntKind.i64.wrap (r - 2) = r - 2 := by rw [IntKind.wrap_i64]; omega
  have r1 : IntKind.i64.wrap (r - 1) = r - 1 := by rw [IntKind.wrap_i64]; omega
  have c2 : IntKind.i64.wrap (c - 2) = c - 2 := by rw [IntKind.wrap_i64]; omega
  have c1 : IntKind.i64.wrap (c - 1) = c - 1 := by rw [IntKind.wrap_i64]; omega
  have HI10 := Lib.hid i10
  have HI02 := Lib.hid i02
  have HI01 := Lib.hid i01
  have HI00 := Lib.hid i00
  have HH := Lib.hid h
  clear hin h i10 i02 i01 i00
  go_enter Try.func23, Try.ntmps23
  go_wp2_with fail
  refine (HU.out (r - 2) (c - 2) 0 0 rfl (by omega) i22.out (by omega) (by omega) f w HH).mono ?_
  rintro e w1 ⟨rfl, f1, n1, HP1, HM1, _, HN1, HD1⟩
  obtain rfl : wd = n1 := by have := HN1.out; omega
  clear HN1
  go_wp2_with fail
  refine (HU.out (r - 2) (c - 1) 1 1 rfl (by omega) i21.out (by omega) (by omega) f1 w1 HP1).mono ?_
  rintro e w2 ⟨rfl, f2, n2, HP2, HM2, _, HN2, HD2⟩
  obtain rfl : wd = n2 := by have := HN2.out; omega
  clear HN2
  go_wp2_with fail
  refine (HU.out (r - 1) (c - 2) 2 2 rfl (by omega) i12.out (by omega) (by omega) f2 w2 HP2).mono ?_
  rintro e w3 ⟨rfl, f3, n3, HP3, HM3, _, HN3, HD3⟩
  obtain rfl : wd = n3 := by have := HN3.out; omega
  clear HN3
  go_wp2_with fail
  refine (HU.out (r - 1) (c - 1) 3 3 rfl (by omega) i11.out (by omega) (by omega) f3 w3 HP3).mono ?_
  rintro e w4 ⟨rfl, f4, n4, HP4, HM4, _, HN4, HD4⟩
  obtain rfl : wd = n4 := by have := HN4.out; omega
  clear HN4
  go_wp2_with fail
  refine (HU.out (r - 1) (c) 4 4 rfl (by omega) HI10.out (by omega) (by omega) f4 w4 HP4).mono ?_
  rintro e w5 ⟨rfl, f5, n5, HP5, HM5, _, HN5, HD5⟩
  obtain rfl : wd = n5 := by have := HN5.out; omega
  clear HN5
  go_wp2_with fail
  refine (HU.out (r) (c - 2) 5 5 rfl (by omega) HI02.out (by omega) (by omega) f5 w5 HP5).mono ?_
  rintro e w6 ⟨rfl, f6, n6, HP6, HM6, _, HN6, HD6⟩
  obtain rfl : wd = n6 := by have := HN6.out; omega
  clear HN6
  go_wp2_with fail
  refine (HU.out (r) (c - 1) 6 6 rfl (by omega) HI01.out (by omega) (by omega) f6 w6 HP6).mono ?_
  rintro e w7 ⟨rfl, f7, n7, HP7, HM7, _, HN7, HD7⟩
  obtain rfl : wd = n7 := by have := HN7.out; omega
  clear HN7
  go_wp2_with fail
  refine (HU.out (r) (c) 7 7 rfl (by omega) HI00.out (by omega) (by omega) f7 w7 HP7).mono ?_
  rintro e w8 ⟨rfl, f8, n8, HP8, HM8, _, HN8, HD8⟩
  obtain rfl : wd = n8 := by have := HN8.out; omega
  clear HN8
  have cw := HP8.out.c2
  have fw := HP8.out.hp.free 2
  have hwr : IntKind.i64.wrap ((wd : Int) + 1) = (wd : Int) + 1 := by rw [IntKind.wrap_i64]; omega
  have HE : Hid (PutPost w p hb R C cap bl wd (wd + 1) f (fun _ => True) (.returned (.tuple #[])) (w8.setCell ⟨p, 2, none⟩ (.int .i64 ((wd : Int) + 1)))) := Lib.hid ⟨rfl, f8, wd + 1, Lib.hid (by have := HP8.out.word (wd + 1); simpa using this), Lib.hid ((((((((HM1.out.trans HM2.out).trans HM3.out).trans HM4.out).trans HM5.out).trans HM6.out).trans HM7.out).trans HM8.out)), Lib.hid trivial, Lib.hid ⟨by omega, by omega⟩,
    Lib.hid ((((((((HD1.out.trans HD2.out).trans HD3.out).trans HD4.out).trans HD5.out).trans HD6.out).trans HD7.out).trans HD8.out).trans ((Mod.set1 w8 p 2 _).mono (fun k _ hk => .inl hk)))⟩
  clear HU
  go_wp2_with fail
  go_end0
  exact HE.out

theorem res_in (n : Nat) (v : Int) (h0 : -4 ≤ v) (h1 : v ≤ 3) (hn : 6 ≤ n) : 0 ≤ res n v ∧ res n v < n := by unfold res; split <;> omega
theorem WS.not {w : World} {p hb R C cap wd : Nat} {bl : Nat → Nat} {f : Nat → Nat → Int} (h : PL w p hb R C cap bl wd f) {M : Nat} (hM : w.heap.size ≤ M) : ¬ WS p R bl M := by
  rintro (e | ⟨r, hr, e⟩)
  · have := h.hp.lt; omega
  · have := (h.row r hr).lt; omega
set_option maxRecDepth 100000 in
set_option maxHeartbeats 6400000 in
theorem dm_corner (p hb R C cap wd : Nat) (bl : Nat → Nat) (f : Nat → Nat → Int) (L : Nat → Int) (hL : ∀ i, i < 16 → -4 ≤ L i ∧ L i ≤ 3) (A : Array Value) (hA : A = (rowV (fun i => .int .i64 (L i)) 16).toArray)
    (hR2 : 6 ≤ R) (hC2 : 6 ≤ C) (hR : R < 1000) (hC : C < 1000) (hwd : wd < 100000000) (w : World) (h : PL w p hb R C cap bl wd f) :
    Calls Try.prog 33 #[.pointer (some ⟨p, 0, none⟩), .agg A] w (PutPost w p hb R C cap bl wd (wd + 1) f (fun f' => ∀ b, b < 8 → 0 ≤ f' (res R (L (2 * b))).toNat (res C (L (2 * b + 1))).toNat)) := by
  have HU := Lib.hid (fun (x y : Int) (bit : Nat) (hb' : bit < 8) (hx : 0 ≤ x ∧ x < R) (hy : 0 ≤ y ∧ y < C) (f : Nat → Nat → Int) (W : World) (hW : Hid (PL W p hb R C cap bl wd f)) =>
    (dm_putI p hb R C cap wd bit bl f x y (bit : Int) rfl (in_nonneg R C x y hx.1 hx.2 hy.1 hy.2).1 hR hC (by omega) hb' (by omega) (by omega) (by omega) (by omega) W hW).mono (R' := PutPost W p hb R C cap bl wd wd f (fun f' => 0 ≤ f' x.toNat y.toNat)) (by
      rintro e w' ⟨rfl, f', n, g1, g2, g3, g4, g5⟩
      refine ⟨rfl, f', n, g1, g2, Lib.hid ?_, g4, g5⟩
      have := g3.out
      rw [(in_nonneg R C x y hx.1 hx.2 hy.1 hy.2).2.1, (in_nonneg R C x y hx.1 hx.2 hy.1 hy.2).2.2] at this
      exact this))
  have hB0 := Arr.new w 68 (rowV (fun i => .int .i64 (L i)) 16)
  have hb1 : Below w.heap.size w (w.alloc (.cells (rowV (fun i => .int .i64 (L i)) 16).toArray 68)) := (Below.refl _ _).alloc (Nat.le_refl _) _
  rw [← hA] at hB0 hb1
  have HP0 := Lib.hid (h.below hb1)
  have HM := Lib.hid (Mod.of_below (S := WS p R bl) hb1)
  have HNW := Lib.hid (WS.not h (Nat.le_refl _))
  have HL := Lib.hid hL
  clear hA h hL
  go_enter Try.func33, Try.ntmps33
  go_wp2_with fail
  obtain ⟨M, hM⟩ : ∃ M, M = w.heap.size := ⟨_, rfl⟩
  rw [← hM] at hB0 HNW ⊢
  obtain ⟨W0, hW0⟩ : ∃ W0, W0 = w.alloc (.cells A 68) := ⟨_, rfl⟩
  rw [← hW0] at hB0 HP0 HM ⊢
  have HB0 := Lib.hid hB0
  clear hb1 hW0 hM hB0
  go_loopw [7] (fun i wr => ∃ (k : Nat) (f' : Nat → Nat → Int), k ≤ 8 ∧ i = .int .i64 k ∧ Hid (PL wr p hb R C cap bl wd f') ∧ Hid (Mono f f') ∧ Hid (∀ b, b < k → 0 ≤ f' (res R (L (2 * b))).toNat (res C (L (2 * b + 1))).toNat) ∧ Hid (Mod (WS p R bl) w wr) ∧ Hid (Arr wr 68 M (rowV (fun i => .int .i64 (L i)) 16))) (fun i _ => 8 - (intOf i).toNat)
  case atStart => exact ⟨0, f, by omega, rfl, HP0, Lib.hid (Mono.refl f), Lib.hid (fun b hb => by omega), HM, HB0⟩
  case round =>
    obtain ⟨k, f', hk, rfl, HP, HMo, HZ, HD, HB⟩ := hrel
    clear HP0 HM HB0
    by_cases hlt : k < 8
    · have hk0 : (0 : Int) ≤ (k : Int) := by omega
      have hk1 : (k : Int) < 8 := by omega
      obtain ⟨j, hj⟩ : ∃ j, j = 2 * k := ⟨_, rfl⟩
      have hj16 : j + 1 < 16 := by omega
      have ca := HB.out.cell? j
      rw [rowV_get _ _ _ (by omega)] at ca
      have cb := HB.out.cell? (j + 1)
      rw [rowV_get _ _ _ (by omega)] at cb
      have ej : (2 : Int) * (k : Int) = (j : Int) := by omega
      have hjz0 : (0 : Int) ≤ (j : Int) := by omega
      have hjz1 : (j : Int) < 16 := by omega
      have hjz2 : (j : Int) + 1 < 16 := by omega
      have wj : IntKind.i64.wrap (j : Int) = (j : Int) := by rw [IntKind.wrap_i64]; omega
      have wj1 : IntKind.i64.wrap ((j : Int) + 1) = (j : Int) + 1 := by rw [IntKind.wrap_i64]; omega
      have l0 := HL.out j (by omega)
      have l1 := HL.out (j + 1) (by omega)
      have hra := res_in R (L j) l0.1 l0.2 (by omega)
      have hrb := res_in C (L (j + 1)) l1.1 l1.2 (by omega)
      have p0 := HP.out.c0
      have p1 := HP.out.c1
      obtain ⟨X, hX⟩ : ∃ X, X = res R (L j) := ⟨_, rfl⟩
      obtain ⟨Y, hY⟩ : ∃ Y, Y = res C (L (j + 1)) := ⟨_, rfl⟩
      rw [← hX] at hra
      rw [← hY] at hrb
      have HC := Lib.hid (fun n => HU.out X Y k hlt hra hrb f' (wr.drewN n) (Lib.hid (HP.out.drewN n)))
      have hpo : ∀ n, ∀ e w', PutPost (wr.drewN n) p hb R C cap bl wd wd f' (fun f'' => 0 ≤ f'' X.toNat Y.toNat) e w' → e = .returned (.tuple #[]) ∧ ∃ f'', Hid (PL w' p hb R C cap bl wd f'') ∧ Hid (Mono f f'') ∧ Hid (∀ b, b < k + 1 → 0 ≤ f'' (res R (L (2 * b))).toNat (res C (L (2 * b + 1))).toNat) ∧ Hid (Mod (WS p R bl) w w') ∧ Hid (Arr w' 68 M (rowV (fun i => .int .i64 (L i)) 16)) := by
        rintro n e w' ⟨rfl, f'', m, g1, g2, g3, g4, g5⟩
        obtain rfl : wd = m := by have := g4.out; omega
        refine ⟨rfl, f'', g1, Lib.hid (HMo.out.trans g2.out), Lib.hid (fun b hb => ?_), Lib.hid ((HD.out.drewN n).trans g5.out), Lib.hid ((HB.out.mod (S := WS p R bl) ((Mod.refl wr).drewN n) HNW.out).mod g5.out HNW.out)⟩
        by_cases e : b = k
        · subst e
          rw [← hj, ← hX, ← hY]; exact g3.out
        · exact g2.out.1 _ _ (HZ.out b (by omega))
      obtain ⟨x, hx⟩ : ∃ x, x = L j := ⟨_, rfl⟩
      obtain ⟨y, hy⟩ : ∃ y, y = L (j + 1) := ⟨_, rfl⟩
      rw [← hx] at ca hX l0
      rw [← hy] at cb hY l1
      have HPO := Lib.hid hpo
      have wx : IntKind.i64.wrap (x + (R : Int)) = x + (R : Int) := by rw [IntKind.wrap_i64]; omega
      have wy : IntKind.i64.wrap (y + (C : Int)) = y + (C : Int) := by rw [IntKind.wrap_i64]; omega
      have HXX := Lib.hid hX
      have HYY := Lib.hid hY
      clear hpo hx hy hj hra hrb l0 l1 hX hY
      by_cases hx0 : x < 0
      all_goals by_cases hy0 : y < 0
      all_goals
        have ex2 := HXX.out
        have ey2 := HYY.out
        unfold res at ex2 ey2
        simp only [hx0, hy0, if_true, if_false] at ex2 ey2
        subst ex2 ey2
        clear HXX HYY
        go_wp2_with fail
        go_quiet (fail)
        go_wp2_with fail
        refine (HC.out _).mono ?_
        intro e w3 hpost
        obtain ⟨rfl, f3, g1, g2, g3, g4, g5⟩ := HPO.out _ _ _ hpost
        clear hpost HPO HC
        go_wp2_with fail
        go_roundw
        case rel => exact ⟨k + 1, f3, by omega, by go_num, g1, g2, g3, g4, g5⟩
        case measure => simp [intOf]; omega
    · obtain rfl : k = 8 := by omega
      have cw := HP.out.c2
      have fw := HP.out.hp.free 2
      have hwr : IntKind.i64.wrap ((wd : Int) + 1) = (wd : Int) + 1 := by rw [IntKind.wrap_i64]; omega
      have HE : Hid (PutPost w p hb R C cap bl wd (wd + 1) f (fun f' => ∀ b, b < 8 → 0 ≤ f' (res R (L (2 * b))).toNat (res C (L (2 * b + 1))).toNat) (.returned (.tuple #[])) (wr.setCell ⟨p, 2, none⟩ (.int .i64 ((wd : Int) + 1)))) := Lib.hid ⟨rfl, f', wd + 1, Lib.hid (by have := HP.out.word (wd + 1); simpa using this), HMo, HZ, Lib.hid ⟨by omega, by omega⟩, Lib.hid (HD.out.trans ((Mod.set1 wr p 2 _).mono (fun k _ hk => .inl hk)))⟩
      clear HU
      go_wp2_with fail
      go_end0
      exact HE.out

def k1 : List Int := [-1, 0, -1, 1, -1, 2, 0, -2, 0, -1, 1, -1, 2, -1, 3, -1]
def k2 : List Int := [-3, 0, -2, 0, -1, 0, 0, -4, 0, -3, 0, -2, 0, -1, 1, -1]
def k3 : List Int := [-3, 0, -2, 0, -1, 0, 0, -2, 0, -1, 1, -1, 2, -1, 3, -1]
def k4 : List Int := [-1, 0, -1, -1, 0, -3, 0, -2, 0, -1, 1, -3, 1, -2, 1, -1]
theorem k_in : ∀ i, i < 16 → (-4 ≤ nthI k1 i ∧ nthI k1 i ≤ 3) ∧ (-4 ≤ nthI k2 i ∧ nthI k2 i ≤ 3) ∧ (-4 ≤ nthI k3 i ∧ nthI k3 i ≤ 3) ∧ (-4 ≤ nthI k4 i ∧ nthI k4 i ≤ 3) := by decide
def CZ (R C : Nat) (r c : Int) (f' : Nat → Nat → Int) : Prop := (r = R - 2 → c = 0 → C % 8 = 6 → 0 ≤ f' (R - 2) 0 ∧ 0 ≤ f' 0 (C - 2)) ∧ (r = R - 2 → c = 0 → C % 8 = 4 → 0 ≤ f' (R - 2) 0) ∧ (r = R + 4 → c = 2 → C % 8 = 0 → 0 ≤ f' 1 (C - 1))
set_option maxRecDepth 100000 in
set_option maxHeartbeats 6400000 in
theorem dm_corners (p hb R C cap wd : Nat) (bl : Nat → Nat) (f : Nat → Nat → Int) (r c : Int) (hr0 : 0 ≤ r) (hr1 : r < 2000) (hc0 : 0 ≤ c) (hc1 : c < 2000)
    (hR2 : 6 ≤ R) (hC2 : 6 ≤ C) (hR : R < 1000) (hC : C < 1000) (hwd : wd < 100000000) (w : World) (h : PL w p hb R C cap bl wd f) :
    Calls Try.prog 22 #[.pointer (some ⟨p, 0, none⟩), .int .i64 r, .int .i64 c] w (PutPost w p hb R C cap bl wd (wd + 1) f (CZ R C r c)) := by
  have HK := Lib.hid (fun (l : List Int) (hl : ∀ i, i < 16 → -4 ≤ nthI l i ∧ nthI l i ≤ 3) (A : Array Value) (hA : A = (rowV (fun i => .int .i64 (nthI l i)) 16).toArray) (hz : ∀ f' : Nat → Nat → Int, (∀ b, b < 8 → 0 ≤ f' (res R (nthI l (2 * b))).toNat (res C (nthI l (2 * b + 1))).toNat) → CZ R C r c f') =>
    (dm_corner p hb R C cap wd bl f (nthI l) hl A hA hR2 hC2 hR hC hwd w h).mono (R' := PutPost w p hb R C cap bl wd (wd + 1) f (CZ R C r c)) (by
      rintro e w' ⟨rfl, f', n, g1, g2, g3, g4, g5⟩
      exact ⟨rfl, f', n, g1, g2, Lib.hid (hz f' g3.out), g4, g5⟩))
  have p0 := h.c0
  have p1 := h.c1
  have HH := Lib.hid h
  have e4 : (C : Int) % 4 = ((C % 4 : Nat) : Int) := by omega
  have e8 : (C : Int) % 8 = ((C % 8 : Nat) : Int) := by omega
  have h4 := fun W => rem_run (C : Int) 4 ((C % 4 : Nat) : Int) (by omega) (by rw [Int.tmod_eq_emod_of_nonneg (by omega), e4]) W
  have h8 := fun W => rem_run (C : Int) 8 ((C % 8 : Nat) : Int) (by omega) (by rw [Int.tmod_eq_emod_of_nonneg (by omega), e8]) W
  obtain ⟨m4, hm4⟩ : ∃ m, m = C % 4 := ⟨_, rfl⟩
  obtain ⟨m8, hm8⟩ : ∃ m, m = C % 8 := ⟨_, rfl⟩
  rw [← hm4] at h4 e4
  rw [← hm8] at h8 e8
  have w2 : IntKind.i64.wrap ((R : Int) - 2) = (R : Int) - 2 := by rw [IntKind.wrap_i64]; omega
  have w4 : IntKind.i64.wrap ((R : Int) + 4) = (R : Int) + 4 := by rw [IntKind.wrap_i64]; omega
  have HM4 := Lib.hid hm4
  have HM8 := Lib.hid hm8
  clear h hm4 hm8
  by_cases d1 : r = R ∧ c = 0
  · obtain ⟨d1, d2⟩ := d1
    subst d1 d2
    have q1 : ((R : Int) == (R : Int)) = true := by simp
    have q2 : ((R : Int) == (R : Int) - 2) = false := by simp; omega
    have q3 : ((R : Int) == (R : Int) + 4) = false := by simp; omega
    go_enter Try.func22, Try.ntmps22
    go_wp2_with fail
    refine (HK.out k1 (fun i hi => (k_in i hi).1) _ (by rfl) (fun f' hf => ⟨fun a => by omega, fun a => by omega, fun a => by omega⟩)).mono ?_
    rintro e w1 ⟨rfl, f', n, HP, g2, g3, g4, g5⟩
    have p0' := HP.out.c0
    clear p0 p1
    go_wp2_with fail
    go_end0
    exact ⟨rfl, f', n, HP, g2, g3, g4, g5⟩
  by_cases d2 : r = R - 2 ∧ c = 0 ∧ m4 ≠ 0
  · obtain ⟨d2, d3, d4⟩ := d2
    subst d2 d3
    have q1 : ((R : Int) - 2 == (R : Int)) = false := by simp; omega
    have q2 : ((R : Int) - 2 == (R : Int) - 2) = true := by simp
    have q3 : ((R : Int) - 2 == (R : Int) + 4) = false := by simp; omega
    have q4 : ((m4 : Int) == 0) = false := by simp; omega
    have q4' : ((m4 : Int) != 0) = true := by simp; omega
    have q5 : ((m8 : Int) == 4) = false := by have := HM4.out; have := HM8.out; simp; omega
    go_enter Try.func22, Try.ntmps22
    go_wp2_with fail
    refine (HK.out k2 (fun i hi => (k_in i hi).2.1) _ (by rfl) (fun f' hf => ⟨fun _ _ _ => ⟨by have := hf 1 (by omega); rwa [show (res R (nthI k2 (2 * 1))).toNat = R - 2 from by show ((-2 : Int) + R).toNat = _; omega, show (res C (nthI k2 (2 * 1 + 1))).toNat = 0 from rfl] at this, by have := hf 5 (by omega); rwa [show (res R (nthI k2 (2 * 5))).toNat = 0 from rfl, show (res C (nthI k2 (2 * 5 + 1))).toNat = C - 2 from by show ((-2 : Int) + C).toNat = _; omega] at this⟩, fun _ _ h => by have := HM4.out; have := HM8.out; omega, fun a => by omega⟩)).mono ?_
    rintro e w1 ⟨rfl, f', n, HP, g2, g3, g4, g5⟩
    have p0' := HP.out.c0
    have p1' := HP.out.c1
    clear p0 p1
    go_wp2_with fail
    go_end0
    exact ⟨rfl, f', n, HP, g2, g3, g4, g5⟩
  by_cases d3 : r = R - 2 ∧ c = 0 ∧ m8 = 4
  · obtain ⟨d3, d5, d4⟩ := d3
    subst d3 d5
    have d6 : m4 = 0 := by have := HM4.out; have := HM8.out; omega
    subst d4 d6
    have q1 : ((R : Int) - 2 == (R : Int)) = false := by simp; omega
    have q2 : ((R : Int) - 2 == (R : Int) - 2) = true := by simp
    have q3 : ((R : Int) - 2 == (R : Int) + 4) = false := by simp; omega
    clear d1 d2
    go_enter Try.func22, Try.ntmps22
    go_wp2_with fail
    refine (HK.out k3 (fun i hi => (k_in i hi).2.2.1) _ (by rfl) (fun f' hf => ⟨fun _ _ h => by have := HM8.out; omega, fun _ _ _ => by have := hf 1 (by omega); rwa [show (res R (nthI k3 (2 * 1))).toNat = R - 2 from by show ((-2 : Int) + R).toNat = _; omega, show (res C (nthI k3 (2 * 1 + 1))).toNat = 0 from rfl] at this, fun a => by omega⟩)).mono ?_
    rintro e w1 ⟨rfl, f', n, HP, g2, g3, g4, g5⟩
    have p0' := HP.out.c0
    have p1' := HP.out.c1
    clear p0 p1
    go_wp2_with fail
    go_end0
    exact ⟨rfl, f', n, HP, g2, g3, g4, g5⟩
  by_cases d4 : r = R + 4 ∧ c = 2 ∧ m8 = 0
  · obtain ⟨d5, d6, d7⟩ := d4
    subst d5 d6 d7
    have q1 : ((R : Int) + 4 == (R : Int)) = false := by simp; omega
    have q2 : ((R : Int) + 4 == (R : Int) - 2) = false := by simp; omega
    have q3 : ((R : Int) + 4 == (R : Int) + 4) = true := by simp
    clear d1 d2 d3
    go_enter Try.func22, Try.ntmps22
    go_wp2_with fail
    refine (HK.out k4 (fun i hi => (k_in i hi).2.2.2) _ (by rfl) (fun f' hf => ⟨fun a => by omega, fun a => by omega, fun _ _ _ => by have := hf 7 (by omega); rwa [show (res R (nthI k4 (2 * 7))).toNat = 1 from rfl, show (res C (nthI k4 (2 * 7 + 1))).toNat = C - 1 from by show ((-1 : Int) + C).toNat = _; omega] at this⟩)).mono ?_
    rintro e w1 ⟨rfl, f', n, HP, g2, g3, g4, g5⟩
    have p0' := HP.out.c0
    have p1' := HP.out.c1
    clear p0 p1
    go_wp2_with fail
    go_end0
    exact ⟨rfl, f', n, HP, g2, g3, g4, g5⟩
  have HN : Hid (PutPost w p hb R C cap bl wd (wd + 1) f (CZ R C r c) (.returned (.tuple #[])) w) := Lib.hid ⟨rfl, f, wd, HH, Lib.hid (Mono.refl f), Lib.hid ⟨fun a b e => by exfalso; apply d2; have := HM4.out; exact ⟨a, b, by omega⟩, fun a b e => by exfalso; apply d3; have := HM8.out; exact ⟨a, b, by omega⟩, fun a b e => by exfalso; apply d4; have := HM8.out; exact ⟨a, b, by omega⟩⟩, Lib.hid ⟨by omega, by omega⟩, Lib.hid (Mod.refl w)⟩
  have q1 : (r == (R : Int)) = decide (r = R) := rfl
  have q2 : (r == (R : Int) - 2) = decide (r = (R : Int) - 2) := rfl
  have q3 : (r == (R : Int) + 4) = decide (r = (R : Int) + 4) := rfl
  clear HK
  by_cases z1 : r = R
  · have z2 : ¬ r = (R : Int) - 2 := by omega
    have z3 : ¬ r = (R : Int) + 4 := by omega
    have z4 : ¬ c = 0 := fun h => d1 ⟨z1, h⟩
    have z5 : (c == 0) = false := by simpa using z4
    rw [decide_eq_true z1] at q1
    rw [decide_eq_false z2] at q2
    rw [decide_eq_false z3] at q3
    clear d1 d2 d3 d4 z1 z2 z3 z4
    go_enter Try.func22, Try.ntmps22
    go_wp2_with fail
    go_end0
    exact HN.out
  rw [decide_eq_false z1] at q1
  by_cases z2 : r = (R : Int) - 2
  · have z3 : ¬ r = (R : Int) + 4 := by omega
    rw [decide_eq_true z2] at q2
    rw [decide_eq_false z3] at q3
    by_cases z4 : c = 0
    · have z5 : (c == 0) = true := by simpa using z4
      have z6 : m4 = 0 := by
        by_cases h : m4 = 0
        · exact h
        · exact absurd ⟨z2, z4, h⟩ d2
      subst z6
      have z7 : ¬ m8 = 4 := fun h => d3 ⟨z2, z4, h⟩
      have z8 : ((m8 : Int) == 4) = false := by simp; omega
      clear d1 d2 d3 d4 z1 z2 z3 z4 z7
      go_enter Try.func22, Try.ntmps22
      go_wp2_with fail
      go_end0
      exact HN.out
    · have z5 : (c == 0) = false := by simpa using z4
      clear d1 d2 d3 d4 z1 z2 z3 z4
      go_enter Try.func22, Try.ntmps22
      go_wp2_with fail
      go_end0
      exact HN.out
  rw [decide_eq_false z2] at q2
  by_cases z3 : r = (R : Int) + 4
  · rw [decide_eq_true z3] at q3
    by_cases z4 : c = 2
    · have z5 : (c == 2) = true := by simpa using z4
      have z7 : ¬ m8 = 0 := fun h => d4 ⟨z3, z4, h⟩
      have z8 : ((m8 : Int) == 0) = false := by simp; omega
      clear d1 d2 d3 d4 z1 z2 z3 z4 z7
      go_enter Try.func22, Try.ntmps22
      go_wp2_with fail
      go_end0
      exact HN.out
    · have z5 : (c == 2) = false := by simpa using z4
      clear d1 d2 d3 d4 z1 z2 z3 z4
      go_enter Try.func22, Try.ntmps22
      go_wp2_with fail
      go_end0
      exact HN.out
  rw [decide_eq_false z3] at q3
  clear d1 d2 d3 d4 z1 z2 z3
  go_enter Try.func22, Try.ntmps22
  go_wp2_with fail
  go_end0
  exact HN.out
end Go.Proofs.Ytfnfikmijkeimaa
