
/-
  impl.field, poly, list, PolyMake, PolyDegree, walked. No condition beyond the bounds that each theorem states.
-/
import Derived.Test.YtiielblnmfeapaaRSF
import Derived.Test.YtiielblnmfeapaaRSame
namespace Go.Proofs.Ytiielblnmfeapaa
open Go.RowKit Go.Qz Go.Qz.RS
set_option linter.unusedVariables false

theorem slq_of_own {w : World} {Q : Nat → Prop} {base : Nat} {e : TypeId} {v : Value} {n : Nat} {l : List Nat} (h : w.ownsRow base e 1 v n (l.map fun x : Nat => Value.int .i64 (x : Int))) (hQ : ∀ k, base ≤ k → Q k) :
    ∃ A c, v = .slice A l.length c ∧ n = l.length ∧ l.length ≤ c ∧ c ≤ maxLen ∧ SlQ w Q A l c := by
  obtain ⟨h1, h2⟩ := h
  have hn : n = l.length := by simpa using h1.symm
  subst hn
  rcases h2 with ⟨rfl, h0⟩ | ⟨g, cap, cur, rfl, hb, hh, hc, hm, hz, ht⟩
  · exact ⟨none, 0, by rw [h0], rfl, by omega, by unfold maxLen; omega, by omega, fun h => by omega⟩
  · refine ⟨some ⟨g, 0, none⟩, cap, rfl, rfl, hc, hm, hc, fun _ => ⟨g, 0, rfl, hQ g hb, (Array.getElem?_eq_some_iff.1 hh).1, fun j hj => ?_⟩⟩
    rw [cell_of_row w g (0 + j) cur e (0, 0) hh]
    have : (l.map fun x : Nat => Value.int .i64 (x : Int))[j]? = cur[j]? := by
      rw [← ht, List.getElem?_take]; simp; omega
    rw [Nat.zero_add, ← this]
    simp [hj, nth_eq hj]

set_option maxRecDepth 100000 in
set_option maxHeartbeats 800000 in
theorem polyDegree (Q : Nat → Prop) (p f : Nat) (cs : List Nat) (w : World) (h : PolyQ w Q p f cs) (hn : cs.length < 1000000) :
    Calls Try.prog 70 #[.pointer (some ⟨p, 0, none⟩)] w fun e w' => e = .returned (.int .i64 ((cs.length - 1 : Nat) : Int)) ∧ w = w' := by
  obtain ⟨⟨cb, off, cap, h1, h2, h3, h4, h5⟩, hp, hne⟩ := h
  have hpos : 0 < cs.length := List.length_pos_iff.2 hne
  have hc : w.cell? ⟨p, 1, none⟩ = some (.slice (some ⟨cb, off, none⟩) cs.length cap) := by rw [cell_of_row w p 1 _ _ _ h1]; rfl
  have he : ((cs.length : Int) - 1) = ((cs.length - 1 : Nat) : Int) := by omega
  have HE := Lib.hid he
  clear h5 h1 he
  go_enter Try.func70, Try.ntmps70
  go_wp2_with fail
  go_ret
  exact ⟨by rw [← HE.out]; rfl, rfl⟩

end Go.Proofs.Ytiielblnmfeapaa
