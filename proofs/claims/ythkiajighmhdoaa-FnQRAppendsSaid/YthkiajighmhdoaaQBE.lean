/-
  How many bits say how long a segment is: the decoder's answer, walked. No condition beyond the bounds that each theorem states.
-/
import Derived.Test.YthkiajighmhdoaaQBD
namespace Go.Proofs.Ythkiajighmhdoaa
open Go.RowKit Go.Qz Go.Qz.BS Go.Qz.QA
set_option linter.unusedVariables false

set_option maxRecDepth 100000 in
theorem verNum (p n : Nat) (w : World) (h : VerAt w p n) : Calls Try.prog 81 #[.pointer (some ⟨p, 0, none⟩)] w fun e w' => e = .returned (.int .i64 n) ∧ w = w' := by
  obtain ⟨s, _, ha, _⟩ := h
  have c := ha.cell? 0
  simp only [List.getElem?_cons_zero] at c
  clear ha
  go_enter Try.func81, Try.ntmps81
  go_wp2_with fail
  go_ret
  exact ⟨rfl, rfl⟩
def ChPost (x y z : Nat) (w : World) (e : Ending) (w' : World) : Prop := ∃ b : Nat, e = .returned (.slice (some ⟨b, 0, none⟩) 3 3) ∧ Hid (Arr w' 3 b [.int .i64 (x : Nat), .int .i64 (y : Nat), .int .i64 (z : Nat)]) ∧ Hid (Below w.heap.size w w')
set_option maxRecDepth 100000 in
theorem charCnt (m : Nat) (hm : m = 1 ∨ m = 2 ∨ m = 4) (w : World) : Calls Try.prog 82 #[.int .i64 m] w (ChPost (cnt m 1) (cnt m 10) (cnt m 27) w) := by
  rcases hm with rfl | rfl | rfl
  all_goals
    go_enter Try.func82, Try.ntmps82
    go_wp2_with fail
    go_ret
    exact ⟨_, rfl, Lib.hid (Arr.new _ _ _), Lib.hid ((Below.refl _ _).alloc (Nat.le_refl _) _)⟩
set_option maxRecDepth 100000 in
set_option maxHeartbeats 1600000 in
theorem modeCnt (m v p : Nat) (hm : m = 1 ∨ m = 2 ∨ m = 4) (w : World) (h : VerAt w p v) : Calls Try.prog 58 #[.int .i64 m, .pointer (some ⟨p, 0, none⟩)] w fun e w' => e = .returned (.int .i64 (cnt m v : Nat)) ∧ Below w.heap.size w w' := by
  have HV := Lib.hid (verNum p v w h)
  have HC := Lib.hid (charCnt m hm w)
  obtain ⟨x, hx⟩ : ∃ x, x = cnt m 1 := ⟨_, rfl⟩
  obtain ⟨y, hy⟩ : ∃ x, x = cnt m 10 := ⟨_, rfl⟩
  obtain ⟨z, hz⟩ : ∃ x, x = cnt m 27 := ⟨_, rfl⟩
  obtain ⟨k, hk⟩ : ∃ x, x = cnt m v := ⟨_, rfl⟩
  rw [← hx, ← hy, ← hz] at HC
  rw [← hk]
  have hkk : (v ≤ 9 → k = x) ∧ (¬ v ≤ 9 → v ≤ 26 → k = y) ∧ (¬ v ≤ 26 → k = z) := by
    rw [hk, hx, hy, hz]
    unfold cnt
    refine ⟨fun h1 => ?_, fun h1 h2 => ?_, fun h1 => ?_⟩
    · simp [h1]
    · simp [h1, h2]
    · have : ¬ v ≤ 9 := by omega
      simp [h1, this]
  have HK := Lib.hid hkk
  clear h hm hx hy hz hk hkk
  by_cases h9 : v ≤ 9
  · have h9i : (v : Int) ≤ 9 := by omega
    have hkx := HK.out.1 h9
    subst hkx
    clear HK h9
    go_enter Try.func58, Try.ntmps58
    go_wp2_with fail
    refine HV.out.mono ?_
    rintro e w1 ⟨rfl, rfl⟩
    go_wp2_with fail
    refine HC.out.mono ?_
    rintro e w2 ⟨b, rfl, ha, hb⟩
    have c0 := ha.out.cell? 0
    simp only [List.getElem?_cons_zero] at c0
    go_wp2_with fail
    go_ret
    exact ⟨rfl, hb.out⟩
  · have h9i : ((v : Int) ≤ 9) = False := by simp; omega
    by_cases h26 : v ≤ 26
    · have h26i : (v : Int) ≤ 26 := by omega
      have hkx := HK.out.2.1 h9 h26
      subst hkx
      clear HK h9 h26
      go_enter Try.func58, Try.ntmps58
      go_wp2_with fail
      refine HV.out.mono ?_
      rintro e w1 ⟨rfl, rfl⟩
      go_wp2_with fail
      refine HC.out.mono ?_
      rintro e w2 ⟨b, rfl, ha, hb⟩
      have c0 := ha.out.cell? 1
      simp only [List.getElem?_cons_zero, List.getElem?_cons_succ] at c0
      go_wp2_with fail
      go_ret
      exact ⟨rfl, hb.out⟩
    · have h26i : ((v : Int) ≤ 26) = False := by simp; omega
      have hkx := HK.out.2.2 h26
      subst hkx
      clear HK h9 h26
      go_enter Try.func58, Try.ntmps58
      go_wp2_with fail
      refine HV.out.mono ?_
      rintro e w1 ⟨rfl, rfl⟩
      go_wp2_with fail
      refine HC.out.mono ?_
      rintro e w2 ⟨b, rfl, ha, hb⟩
      have c0 := ha.out.cell? 2
      simp only [List.getElem?_cons_zero, List.getElem?_cons_succ] at c0
      go_wp2_with fail
      go_ret
      exact ⟨rfl, hb.out⟩
end Go.Proofs.Ythkiajighmhdoaa
