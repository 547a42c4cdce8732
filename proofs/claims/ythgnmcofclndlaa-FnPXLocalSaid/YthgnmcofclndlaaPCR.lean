/-
  Crop, walked. No condition beyond the bounds that each theorem states.
-/
import Derived.Test.YthgnmcofclndlaaPSR
import Derived.Deep.RegionHeld3
import Derived.BigRegion
import Derived.Deep.RegionLaw
namespace Go.Proofs.Ythgnmcofclndlaa
open Go.RowKit Go.Qz
set_option linter.unusedVariables false

set_option maxRecDepth 100000 in
set_option maxHeartbeats 1600000 in
theorem crop_ok (p : Nat) (A : Option Addr) (n c dw dh l0 t0 wd0 ht0 l t wd ht L T : Nat) (hL : L = l0 + l) (hT : T = t0 + t) (h1 : L + wd ≤ dw) (h2 : T + ht ≤ dh) (h3 : dw ≤ 1000) (h4 : dh ≤ 1000) (w : World) (hs : SrcIs w p A n c dw dh l0 t0 wd0 ht0) :
    Calls Try.prog 55 #[.pointer (some ⟨p, 0, none⟩), .int .i64 l, .int .i64 t, .int .i64 wd, .int .i64 ht] w (SrcPost A n c dw dh L T wd ht w) := by
  have HP := Lib.hid (fun W => planar_ok A n c dw dh L T wd ht h1 h2 h3 h4 W)
  have e1 : (l0 : Int) + (l : Int) = (L : Int) := by omega
  have e2 : (t0 : Int) + (t : Int) = (T : Int) := by omega
  have b1 : L ≤ 1000 := by omega
  have b2 : T ≤ 1000 := by omega
  have a1 := hs.cell? 1
  have a2 := hs.cell? 2
  have a3 := hs.cell? 3
  have a4 := hs.cell? 4
  have a5 := hs.cell? 5
  have a6 := hs.cell? 6
  simp only [List.getElem?_cons_zero, List.getElem?_cons_succ] at a1 a2 a3 a4 a5 a6
  have hpl := hs.lt
  clear hL hT h1 h2 h3 h4 hs
  have hs0 : (w.drew.cell? ⟨p, 2, none⟩ = some (.slice A n c) ∧ w.drew.cell? ⟨p, 3, none⟩ = some (.int .i64 dw) ∧ w.drew.cell? ⟨p, 4, none⟩ = some (.int .i64 dh) ∧ w.drew.cell? ⟨p, 5, none⟩ = some (.int .i64 l0) ∧ w.drew.cell? ⟨p, 6, none⟩ = some (.int .i64 t0) ∧ Hid (Below w.heap.size w w.drew)) := ⟨a2, a3, a4, a5, a6, Lib.hid (Below.refl _ _).drew⟩
  have hw1 : IntKind.i64.wrap (L : Int) = (L : Int) := by rw [IntKind.wrap_i64]; omega
  have hw2 : IntKind.i64.wrap (T : Int) = (T : Int) := by rw [IntKind.wrap_i64]; omega
  have HPL := Lib.hid hpl
  have HX := Lib.hid (fun (X : World) (hX : X.cell? ⟨p, 2, none⟩ = some (.slice A n c) ∧ X.cell? ⟨p, 3, none⟩ = some (.int .i64 dw) ∧ X.cell? ⟨p, 4, none⟩ = some (.int .i64 dh) ∧ X.cell? ⟨p, 5, none⟩ = some (.int .i64 l0) ∧ X.cell? ⟨p, 6, none⟩ = some (.int .i64 t0) ∧ Hid (Below w.heap.size w X)) =>
    (HP.out X).mono (R' := fun e w' => ∃ q, e = .returned (.tuple #[.iface 72 (.pointer (some ⟨q, 0, none⟩)), .nilIface]) ∧ (w'.cell? ⟨p, 2, none⟩ = some (.slice A n c) ∧ w'.cell? ⟨p, 3, none⟩ = some (.int .i64 dw) ∧ w'.cell? ⟨p, 4, none⟩ = some (.int .i64 dh) ∧ w'.cell? ⟨p, 5, none⟩ = some (.int .i64 l0) ∧ w'.cell? ⟨p, 6, none⟩ = some (.int .i64 t0) ∧ Hid (Below w.heap.size w w')) ∧ Hid (SrcIs w' q A n c dw dh L T wd ht)) (by
      rintro e w' ⟨q, rfl, hq, hb⟩
      have hpX : p < X.heap.size := Nat.lt_of_lt_of_le HPL.out hX.2.2.2.2.2.out.size
      exact ⟨q, rfl, ⟨(hb.cell (p := ⟨p, 2, none⟩) hpX).trans hX.1, (hb.cell (p := ⟨p, 3, none⟩) hpX).trans hX.2.1, (hb.cell (p := ⟨p, 4, none⟩) hpX).trans hX.2.2.1, (hb.cell (p := ⟨p, 5, none⟩) hpX).trans hX.2.2.2.1, (hb.cell (p := ⟨p, 6, none⟩) hpX).trans hX.2.2.2.2.1,
        Lib.hid (hX.2.2.2.2.2.out.trans (hb.mono hX.2.2.2.2.2.out.size))⟩, Lib.hid hq⟩))
  clear a1 a2 a3 a4 a5 a6 hpl HP HPL
  go_enter Try.func55, Try.ntmps55
  go_wp2_with fail
  go_region_held3 (fun w' => w'.cell? ⟨p, 2, none⟩ = some (.slice A n c) ∧ w'.cell? ⟨p, 3, none⟩ = some (.int .i64 dw) ∧ w'.cell? ⟨p, 4, none⟩ = some (.int .i64 dh) ∧ w'.cell? ⟨p, 5, none⟩ = some (.int .i64 l0) ∧ w'.cell? ⟨p, 6, none⟩ = some (.int .i64 t0) ∧ Hid (Below w.heap.size w w'))
    (first | exact hs0 | exact hs3)
    (first | (go_at_call 28; refine (HX.out _ (by assumption)).mono ?_; rintro e w3 ⟨q, rfl, hs3, HQ⟩))
  all_goals
    have HB := hs3.2.2.2.2.2
    clear hs3 hs0
    go_wp2_with fail
    go_ret2
    exact ⟨q, rfl, HQ.out, HB.out⟩
end Go.Proofs.Ythgnmcofclndlaa
