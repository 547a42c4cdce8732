
/-
  A version by its number, with all its tables; its getters. No condition beyond the bounds that each theorem states.
-/
import Derived.Test.YthkiajighmhdoaaQWX1
import Derived.Test.YthkiajighmhdoaaQWX2
import Derived.Test.YthkiajighmhdoaaQWX3
import Derived.Test.YthkiajighmhdoaaQWX4
import Derived.Deep.DeepCutAuto
namespace Go.Proofs.Ythkiajighmhdoaa
open Go.RowKit Go.Qz Go.Qz.QW
set_option linter.unusedVariables false

theorem verAtAll (n : Nat) (h1 : 1 ≤ n) (h2 : n ≤ 40) (w : World) : Calls Try.prog 42 #[.int .i64 n] w (VerGot n w) := by
  have h : n = 1 ∨ n = 2 ∨ n = 3 ∨ n = 4 ∨ n = 5 ∨ n = 6 ∨ n = 7 ∨ n = 8 ∨ n = 9 ∨ n = 10 ∨ n = 11 ∨ n = 12 ∨ n = 13 ∨ n = 14 ∨ n = 15 ∨ n = 16 ∨ n = 17 ∨ n = 18 ∨ n = 19 ∨ n = 20 ∨ n = 21 ∨ n = 22 ∨ n = 23 ∨ n = 24 ∨ n = 25 ∨ n = 26 ∨ n = 27 ∨ n = 28 ∨ n = 29 ∨ n = 30 ∨ n = 31 ∨ n = 32 ∨ n = 33 ∨ n = 34 ∨ n = 35 ∨ n = 36 ∨ n = 37 ∨ n = 38 ∨ n = 39 ∨ n = 40 := by omega
  rcases h with rfl | rfl | rfl | rfl | rfl | rfl | rfl | rfl | rfl | rfl | rfl | rfl | rfl | rfl | rfl | rfl | rfl | rfl | rfl | rfl | rfl | rfl | rfl | rfl | rfl | rfl | rfl | rfl | rfl | rfl | rfl | rfl | rfl | rfl | rfl | rfl | rfl | rfl | rfl | rfl
  · exact verAt1 w
  · exact verAt2 w
  · exact verAt3 w
  · exact verAt4 w
  · exact verAt5 w
  · exact verAt6 w
  · exact verAt7 w
  · exact verAt8 w
  · exact verAt9 w
  · exact verAt10 w
  · exact verAt11 w
  · exact verAt12 w
  · exact verAt13 w
  · exact verAt14 w
  · exact verAt15 w
  · exact verAt16 w
  · exact verAt17 w
  · exact verAt18 w
  · exact verAt19 w
  · exact verAt20 w
  · exact verAt21 w
  · exact verAt22 w
  · exact verAt23 w
  · exact verAt24 w
  · exact verAt25 w
  · exact verAt26 w
  · exact verAt27 w
  · exact verAt28 w
  · exact verAt29 w
  · exact verAt30 w
  · exact verAt31 w
  · exact verAt32 w
  · exact verAt33 w
  · exact verAt34 w
  · exact verAt35 w
  · exact verAt36 w
  · exact verAt37 w
  · exact verAt38 w
  · exact verAt39 w
  · exact verAt40 w
def IsErr (v : Value) : Prop := ∃ b : Nat, v = .iface 134 (.pointer (some ⟨b, 0, none⟩))
set_option maxRecDepth 100000 in
theorem err_new (s : ByteArray) (w : World) :
    Calls Try.prog 41 #[.string s] w fun e w' => ∃ v, e = .returned v ∧ IsErr v ∧ Below w.heap.size w w' := by
  go_enter Try.func41, Try.ntmps41
  go_wp2_with fail
  go_ret
  exact ⟨_, rfl, ⟨_, rfl⟩, (Below.refl _ _).alloc (Nat.le_refl _) _⟩
theorem errIface : Try.prog.underlying 60 = some (.interface (Try.prog.methodsAt 60)) := by kernel_rfl

def GetPost (n : Nat) (w : World) (e : Ending) (w' : World) : Prop := ∃ p, e = .returned (.tuple #[.pointer (some ⟨p, 0, none⟩), .nilIface]) ∧ VerAt w' p n ∧ Below w.heap.size w w'
set_option maxRecDepth 100000 in
set_option maxHeartbeats 800000 in
theorem getVer (n : Nat) (h1 : 1 ≤ n) (h2 : n ≤ 40) (w : World) :
    Calls Try.prog 24 #[.int .i64 n] w (GetPost n w) := by
  have HV := Lib.hid (verAtAll n h1 h2 w)
  have g1 : decide ((n : Int) < 1) = false := by simp; omega
  have g2 : decide ((40 : Int) < (n : Int)) = false := by simp; omega
  clear h1 h2
  go_enter Try.func24, Try.ntmps24
  go_wp2_with fail
  refine HV.out.mono ?_
  rintro e w1 ⟨p, rfl, hc, hb⟩
  have HC := Lib.hid hc
  have HB := Lib.hid hb
  clear hc hb
  go_wp2_with fail
  go_ret2
  exact ⟨p, rfl, HC.out, HB.out⟩
/-- The cells of a version's level. -/
theorem VerBlk.level {w : World} {s n : Nat} (h : VerBlk w s n) {l : Nat} (hl : l < 4) :
    w.cell? ⟨s + 5, 2 * atLv l, none⟩ = some (.int .i64 (ecOf n l : Nat)) ∧ w.cell? ⟨s + 5, 2 * atLv l + 1, none⟩ = some (.slice (some ⟨s + 1 + atLv l, 0, none⟩) (grOf n l).length (grOf n l).length) ∧
    ∀ j, j < (grOf n l).length → w.cell? ⟨s + 1 + atLv l, j * 2, none⟩ = some (.int .i64 (((grOf n l).getD j (0, 0)).1 : Nat)) ∧ w.cell? ⟨s + 1 + atLv l, j * 2 + 1, none⟩ = some (.int .i64 (((grOf n l).getD j (0, 0)).2 : Nat)) := by
  obtain ⟨e, hi⟩ := lv_at l hl
  have h1 := ecs_get s n (atLv l) hi
  rw [e] at h1
  have h2 := h.gr (atLv l) hi
  rw [e] at h2
  refine ⟨by rw [h.ec.cell?]; exact h1.1, by rw [h.ec.cell?]; exact h1.2, fun j hj => ?_⟩
  have := flat_get _ j hj
  exact ⟨(h2.cell? _).trans this.1, (h2.cell? _).trans this.2⟩
end Go.Proofs.Ythkiajighmhdoaa
