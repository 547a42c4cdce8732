/-
  Several texts of this claim in one. No condition beyond the bounds that each theorem states.
-/
import Derived.Test.YtiielblnmfeapaaRSE
import Derived.Test.YtiielblnmfeapaaRSL
import Derived.Test.YtiielblnmfeapaaPSH
import Derived.Deep.RegionHeld3
import Derived.Test.YtiielblnmfeapaaRSM
import Derived.Laws.CopyOwn
namespace Go.Proofs.Ytiielblnmfeapaa
open Go.RowKit Go.Qz Go.Qz.RS
set_option linter.unusedVariables false

theorem PolyQ.bound {w : World} {Q : Nat → Prop} {p f : Nat} {cs : List Nat} (h : PolyQ w Q p f cs) : PolyQ w (fun k => Q k ∧ k < w.heap.size) p f cs := by
  have hl := h.lt
  obtain ⟨⟨cb, off, cap, h1, h2, h3, h4, h5⟩, hp, hne⟩ := h
  exact ⟨⟨cb, off, cap, h1, ⟨h2, h3⟩, h3, h4, h5⟩, ⟨hp, hl⟩, hne⟩
theorem GFQ.imp {w : World} {Q Q' : Nat → Prop} {f : Nat} {F : Fld} (h : GFQ w Q f F) (hq : ∀ k, Q k → Q' k) : GFQ w Q' f F := by
  obtain ⟨⟨eb, lb, z, o, h1, h2, h3, h4, h5, h6, h7⟩, h8⟩ := h
  exact ⟨⟨eb, lb, z, o, h1, h2, hq _ h3, h4, hq _ h5, h6.imp hq, h7.imp hq⟩, hq _ h8⟩
theorem GFQ.bound {w : World} {Q : Nat → Prop} {f : Nat} {F : Fld} (h : GFQ w Q f F) : GFQ w (fun k => Q k ∧ k < w.heap.size) f F := by
  obtain ⟨⟨eb, lb, z, o, h1, h2, h3, h4, h5, h6, h7⟩, h8⟩ := h
  exact ⟨⟨eb, lb, z, o, h1, h2, ⟨h3, h2.lt⟩, h4, ⟨h5, h4.lt⟩, h6.bound, h7.bound⟩, ⟨h8, (Array.getElem?_eq_some_iff.1 h1).1⟩⟩
/-- A new block of two numbers. -/
theorem SlQ.lit2 {w : World} {Q : Nat → Prop} (x y b : Nat) (hb : b = w.heap.size) (hq : Q b) : SlQ (w.alloc (.cells #[.int .i64 (x : Nat), .int .i64 (y : Nat)] 3)) Q (some ⟨b, 0, none⟩) [x, y] 2 := by
  subst hb
  refine ⟨Nat.le_refl _, fun _ => ⟨_, 0, rfl, hq, by simp, fun j hj => ?_⟩⟩
  have : j = 0 ∨ j = 1 := by simp at hj; omega
  rw [World.cell?_alloc_at _ _ _ _ (by simp)]
  rcases this with rfl | rfl <;> rfl

/-- The blocks of an encoder's polynomials: not these. -/
def Away (L e : Nat) (v : Value) (k : Nat) : Prop := k ≠ L ∧ k ≠ e ∧ v.ownBlock ≠ some k
theorem Try.infoPoly : (Try.prog.info? 112).map (fun i => (i.zero, i.size, i.bytes)) = some (some (.pointer none), 1, 8) := by kernel_rfl

set_option maxRecDepth 100000 in
theorem getBase (Q : Nat → Prop) (F : Fld) (f : Nat) (w : World) (h : GFQ w Q f F) :
    Calls Try.prog 58 #[.pointer (some ⟨f, 0, none⟩)] w fun e w' => e = .returned (.int .i64 F.base) ∧ w = w' := by
  obtain ⟨⟨eb, lb, z, o, h1, _⟩, _⟩ := h
  have hc : w.cell? ⟨f, 6, none⟩ = some (.int .i64 F.base) := by rw [cell_of_row w f 6 _ _ _ h1]; rfl
  clear h1
  go_enter Try.func58, Try.ntmps58
  go_wp2_with fail
  go_ret
  exact ⟨rfl, rfl⟩
end Go.Proofs.Ytiielblnmfeapaa
namespace Go.Proofs.Ytiielblnmfeapaa
open Go.RowKit Go.Qz Go.Qz.RS
set_option linter.unusedVariables false

theorem tidy_lin (x : Nat) : tidy [1, x] = [1, x] := by simp [tidy]

end Go.Proofs.Ytiielblnmfeapaa
namespace Go.Proofs.Ytiielblnmfeapaa
open Go.RowKit Go.Qz Go.Qz.RS
set_option linter.unusedVariables false

theorem set_same {α : Type} {l : List α} {i : Nat} {a : α} (h : l[i]? = some a) : l.set i a = l := by
  apply List.ext_getElem?
  intro j
  rw [List.getElem?_set]
  by_cases e : i = j
  · subst e
    rw [if_pos rfl, h]
    have : i < l.length := by
      rcases Nat.lt_or_ge i l.length with h1 | h1
      · exact h1
      · rw [List.getElem?_eq_none h1] at h; cases h
    rw [if_pos this]
  · rw [if_neg e]
/-- So many numbers as values. -/
def ints (l : List Nat) : List Value := l.map fun x : Nat => Value.int .i64 (x : Int)
theorem ints_length (l : List Nat) : (ints l).length = l.length := by simp [ints]
theorem ints_append (a b : List Nat) : ints (a ++ b) = ints a ++ ints b := by simp [ints]
theorem ints_get (l : List Nat) (j : Nat) (hj : j < l.length) : (ints l)[j]? = some (.int .i64 (nth l j : Nat)) := by simp [ints, hj, nth_eq hj]
theorem ints_one (l : List Nat) : ∀ v ∈ ints l, v.oneCell' = true := by
  intro v hv
  obtain ⟨x, _, rfl⟩ := List.mem_map.1 hv
  rfl

def EncPost (F : Fld) (data : List Nat) (ec lb B : Nat) (spare : List Value) (w : World) (en : Ending) (w' : World) : Prop :=
  ∃ q r, en = .returned .nilIface ∧ Arr w' 3 lb (ints (coded data r ec) ++ spare) ∧ El F q ∧ El F r ∧ q ≠ [] ∧ r.length ≤ ec ∧ plus (prod F q (gen F ec)) r = shfL F (tidy data) ec 1 ∧ Below B w w'

end Go.Proofs.Ytiielblnmfeapaa
