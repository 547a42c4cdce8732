/-
  GetZero, GetCoefficient, Multiply, Inverse, BuildMonomial, MultiplyByMonomial, walked. No condition beyond the bounds that each theorem states.
-/
import Derived.Test.YtiielblnmfeapaaRSA
import Derived.Test.YtiielblnmfeapaaRSL
import Derived.Test.YtiielblnmfeapaaGFM
import Derived.Deep.QuietTactic
import Derived.BigQuiet
namespace Go.Proofs.Ytiielblnmfeapaa
open Go.RowKit Go.Qz Go.Qz.RS
set_option linter.unusedVariables false

theorem rem_run (a b c : Int) (h0 : ¬ b = 0) (h : a.tmod b = c) (W : World) : (binOp .rem 3 (.int .i64 a) (.int .i64 b)).run Try.prog W = .ok (.int .i64 c) W := by
  subst h
  show ((Op.intDiv .rem .i64 a b).run Try.prog W) = _
  unfold Op.intDiv
  simp [h0, go_sem]

theorem gfq_cells {Q : Nat → Prop} {F : Fld} {f : Nat} {w : World} (h : GFQ w Q f F) : ∃ eb lb z : Nat, w.cell? ⟨f, 0, none⟩ = some (.slice (some ⟨eb, 0, none⟩) F.size F.size) ∧ w.cell? ⟨f, 1, none⟩ = some (.slice (some ⟨lb, 0, none⟩) F.size F.size) ∧ w.cell? ⟨f, 2, none⟩ = some (.pointer (some ⟨z, 0, none⟩)) ∧
    w.cell? ⟨f, 4, none⟩ = some (.int .i64 F.size) ∧ (∀ i, i < F.size → w.cell? ⟨eb, i, none⟩ = some (.int .i64 (ex F i : Nat))) ∧ (∀ i, i < F.size → w.cell? ⟨lb, i, none⟩ = some (.int .i64 (lg F i : Nat))) ∧ PolyQ w Q z f [0] := by
  obtain ⟨⟨eb, lb, z, o, h1, h2, _, h3, _, h4, _⟩, _⟩ := h
  refine ⟨eb, lb, z, by rw [cell_of_row w f 0 _ _ _ h1]; rfl, by rw [cell_of_row w f 1 _ _ _ h1]; rfl, by rw [cell_of_row w f 2 _ _ _ h1]; rfl, by rw [cell_of_row w f 4 _ _ _ h1]; rfl, fun i hi => ?_, fun i hi => ?_, h4⟩
  · rw [Arr.cell? h2]
    simp [pre, hi]
  · rw [Arr.cell? h3]
    have hl := logs_length F (F.size - 1)
    rw [List.getElem?_map, List.getElem?_eq_getElem (by omega)]
    simp [lg, List.getD_eq_getElem?_getD, hl, hi]

set_option maxRecDepth 100000 in
set_option maxHeartbeats 1600000 in
theorem gfMul (Q : Nat → Prop) (F : Fld) (hF : Six F) (f a b : Nat) (ha : a < F.size) (hb : b < F.size) (w : World) (h : GFQ w Q f F) :
    Calls Try.prog 69 #[.pointer (some ⟨f, 0, none⟩), .int .i64 a, .int .i64 b] w fun e w' => e = .returned (.int .i64 (mul F a b : Nat)) ∧ ∃ n, w' = w.drewN n := by
  have hs := hF.bounds
  obtain ⟨eb, lb, z, c0, c1, _, c4, he, hl, _⟩ := gfq_cells h
  clear h
  by_cases ha0 : a = 0
  · subst ha0
    have hm : mul F 0 b = 0 := zero_mul hF b
    rw [hm]
    clear he hl hm
    go_enter Try.func69, Try.ntmps69
    go_wp2_with fail
    go_ret
    exact ⟨rfl, 0, rfl⟩
  by_cases hb0 : b = 0
  · subst hb0
    have hm : mul F a 0 = 0 := mul_zero hF ha
    have ha1 : ((a : Int) == 0) = false := by simpa using ha0
    rw [hm]
    clear he hl hm
    go_enter Try.func69, Try.ntmps69
    go_wp2_with fail
    go_ret
    exact ⟨rfl, 0, rfl⟩
  have ha1 : ((a : Int) == 0) = false := by simpa using ha0
  have hb1 : ((b : Int) == 0) = false := by simpa using hb0
  obtain ⟨la0, _⟩ := ex_lg hF (by omega) ha
  obtain ⟨lb0, _⟩ := ex_lg hF (by omega) hb
  have hm := mul_tables hF ha hb ha0 hb0
  have hla := hl a ha
  have hlb := hl b hb
  obtain ⟨x, hx⟩ : ∃ x, x = lg F a := ⟨_, rfl⟩
  obtain ⟨y, hy⟩ : ∃ y, y = lg F b := ⟨_, rfl⟩
  rw [← hx, ← hy] at hm
  rw [← hx] at hla la0
  rw [← hy] at hlb lb0
  obtain ⟨i, hi⟩ : ∃ i, i = (x + y) % (F.size - 1) := ⟨_, rfl⟩
  rw [← hi] at hm
  have hil : i < F.size - 1 := by rw [hi]; exact Nat.mod_lt _ (by omega)
  have hei := he i (by omega)
  rw [hm] at hei
  have hie : ((x : Int) + (y : Int)) % ((F.size : Int) - 1) = (i : Int) := by rw [hi, show (F.size : Int) - 1 = ((F.size - 1 : Nat) : Int) by omega]; simp
  have hit : ((x : Int) + (y : Int)).tmod ((F.size : Int) - 1) = (i : Int) := by rw [Int.tmod_eq_emod_of_nonneg (by omega)]; exact hie
  have hn0 : ¬ (F.size : Int) - 1 = 0 := by omega
  have hrem := fun W => rem_run ((x : Int) + (y : Int)) ((F.size : Int) - 1) (i : Int) hn0 hit W
  have hw1 : IntKind.i64.wrap ((x : Int) + (y : Int)) = (x : Int) + (y : Int) := by rw [IntKind.wrap_i64]; omega
  have hw2 : IntKind.i64.wrap ((F.size : Int) - 1) = (F.size : Int) - 1 := by rw [IntKind.wrap_i64]; omega
  have hi0 : (0 : Int) ≤ (i : Int) := by omega
  have hi1 : (i : Int) < (F.size : Int) := by omega
  have hi2 : i < F.size := by omega
  obtain ⟨r, hr⟩ : ∃ r, r = mul F a b := ⟨_, rfl⟩
  rw [← hr] at hei ⊢
  clear hr hm hx hy hi he hl ha0 hb0
  go_enter Try.func69, Try.ntmps69
  go_wp2_with fail
  go_quiet (fail)
  go_wp2_with fail
  go_ret
  exact ⟨rfl, _, rfl⟩
end Go.Proofs.Ytiielblnmfeapaa
