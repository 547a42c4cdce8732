/-
  GetWidth, GetHeight, pxSame, crop_not, walked. No condition beyond the bounds that each theorem states.
-/
import Derived.Test.YthgnmcofclndlaaPCR
namespace Go.Proofs.Ythgnmcofclndlaa
open Go.RowKit Go.Qz
set_option linter.unusedVariables false

set_option maxRecDepth 100000 in
theorem getWidth (p o : Nat) (v : Int) (w : World) (h : w.cell? ⟨p, o, none⟩ = some (.int .i64 v)) :
    Calls Try.prog 59 #[.pointer (some ⟨p, o, none⟩)] w fun e w' => e = .returned (.int .i64 v) ∧ w = w' := by
  go_enter Try.func59, Try.ntmps59
  go_wp2_with fail
  go_ret
  exact ⟨rfl, rfl⟩
set_option maxRecDepth 100000 in
theorem getHeight (p o : Nat) (v : Int) (w : World) (h : w.cell? ⟨p, o + 1, none⟩ = some (.int .i64 v)) :
    Calls Try.prog 56 #[.pointer (some ⟨p, o, none⟩)] w fun e w' => e = .returned (.int .i64 v) ∧ w = w' := by
  go_enter Try.func56, Try.ntmps56
  go_wp2_with fail
  go_ret
  exact ⟨rfl, rfl⟩

set_option maxRecDepth 100000 in
set_option maxHeartbeats 1600000 in
theorem crop_not (p : Nat) (A : Option Addr) (n c dw dh l0 t0 wd0 ht0 l t wd ht L T : Nat) (hL : L = l0 + l) (hT : T = t0 + t) (hne : dw < L + wd ∨ dh < T + ht) (b1 : L ≤ 1000) (b2 : T ≤ 1000) (b3 : wd ≤ 1000) (b4 : ht ≤ 1000) (w : World) (hs : SrcIs w p A n c dw dh l0 t0 wd0 ht0) :
    Calls Try.prog 55 #[.pointer (some ⟨p, 0, none⟩), .int .i64 l, .int .i64 t, .int .i64 wd, .int .i64 ht] w (SrcErr w) := by
  have HP := Lib.hid (fun W => planar_not A n c dw dh L T wd ht hne b1 b2 b3 b4 W)
  have e1 : (l0 : Int) + (l : Int) = (L : Int) := by omega
  have e2 : (t0 : Int) + (t : Int) = (T : Int) := by omega
  have a1 := hs.cell? 1
  have a2 := hs.cell? 2
  have a3 := hs.cell? 3
  have a4 := hs.cell? 4
  have a5 := hs.cell? 5
  have a6 := hs.cell? 6
  simp only [List.getElem?_cons_zero, List.getElem?_cons_succ] at a1 a2 a3 a4 a5 a6
  have hpl := hs.lt
  clear hL hT hne hs
  have hs0 : (w.drew.cell? ⟨p, 2, none⟩ = some (.slice A n c) ∧ w.drew.cell? ⟨p, 3, none⟩ = some (.int .i64 dw) ∧ w.drew.cell? ⟨p, 4, none⟩ = some (.int .i64 dh) ∧ w.drew.cell? ⟨p, 5, none⟩ = some (.int .i64 l0) ∧ w.drew.cell? ⟨p, 6, none⟩ = some (.int .i64 t0) ∧ Hid (Below w.heap.size w w.drew)) := ⟨a2, a3, a4, a5, a6, Lib.hid (Below.refl _ _).drew⟩
  have hw1 : IntKind.i64.wrap (L : Int) = (L : Int) := by rw [IntKind.wrap_i64]; omega
  have hw2 : IntKind.i64.wrap (T : Int) = (T : Int) := by rw [IntKind.wrap_i64]; omega
  have HPL := Lib.hid hpl
  have HX := Lib.hid (fun (X : World) (hX : X.cell? ⟨p, 2, none⟩ = some (.slice A n c) ∧ X.cell? ⟨p, 3, none⟩ = some (.int .i64 dw) ∧ X.cell? ⟨p, 4, none⟩ = some (.int .i64 dh) ∧ X.cell? ⟨p, 5, none⟩ = some (.int .i64 l0) ∧ X.cell? ⟨p, 6, none⟩ = some (.int .i64 t0) ∧ Hid (Below w.heap.size w X)) =>
    (HP.out X).mono (R' := fun e w' => ∃ q, e = .returned (.tuple #[.nilIface, q]) ∧ (w'.cell? ⟨p, 2, none⟩ = some (.slice A n c) ∧ w'.cell? ⟨p, 3, none⟩ = some (.int .i64 dw) ∧ w'.cell? ⟨p, 4, none⟩ = some (.int .i64 dh) ∧ w'.cell? ⟨p, 5, none⟩ = some (.int .i64 l0) ∧ w'.cell? ⟨p, 6, none⟩ = some (.int .i64 t0) ∧ Hid (Below w.heap.size w w')) ∧ Hid (IsErr q)) (by
      rintro e w' ⟨q, rfl, hq, hb⟩
      have hpX : p < X.heap.size := Nat.lt_of_lt_of_le HPL.out hX.2.2.2.2.2.out.size
      exact ⟨q, rfl, ⟨(hb.cell (p := ⟨p, 2, none⟩) hpX).trans hX.1, (hb.cell (p := ⟨p, 3, none⟩) hpX).trans hX.2.1, (hb.cell (p := ⟨p, 4, none⟩) hpX).trans hX.2.2.1, (hb.cell (p := ⟨p, 5, none⟩) hpX).trans hX.2.2.2.1, (hb.cell (p := ⟨p, 6, none⟩) hpX).trans hX.2.2.2.2.1,
        Lib.hid (hX.2.2.2.2.2.out.trans (hb.mono hX.2.2.2.2.2.out.size))⟩, Lib.hid hq⟩))
  clear a1 a2 a3 a4 a5 a6 hpl HP HPL
  go_enter Try.func55, Try.ntmps55
  go_wp2_with fail
  go_region_held3 (fun w' => w'.cell? ⟨p, 2, none⟩ = some (.slice A n c) ∧ w'.cell? ⟨p, 3, none⟩ = some (.int .i64 dw) ∧ w'.cell? ⟨p, 4, none⟩ = some (.int .i64 dh) ∧ w'.cell? ⟨p, 5, none⟩ = some (.int .i64 l0) ∧ w'.cell? ⟨p, 6, none⟩ = some (.int .i64 t0) ∧ Hid (Below w.heap.size w w'))
    (first | exact hs0 | exact hs3)
    (first | (go_at_call 28; refine (HX.out _ (by assumption)).mono ?_; rintro e w3 ⟨q, rfl, hs3, HQ⟩))
  all_goals
    have HB := hs3.2.2.2.2.2
    clear hs3 hs0
    go_wp2_with fail
    go_ret2
    exact ⟨q, rfl, HQ.out, HB.out⟩

end Go.Proofs.Ythgnmcofclndlaa
