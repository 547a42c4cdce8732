/-
  The encoder as an object: NewReedSolomonEncoder and buildGenerator, walked. No condition beyond the bounds that each theorem states.
-/
import Derived.Test.YthagfgfefkpikaaRSE
import Derived.Test.YthagfgfefkpikaaRSL
import Derived.Test.YthagfgfefkpikaaPSH
namespace Go.Proofs.Ythagfgfefkpikaa
open Go.RowKit Go.Qz Go.Qz.RS
set_option linter.unusedVariables false

theorem PolyQ.bound {w : World} {Q : Nat → Prop} {p f : Nat} {cs : List Nat} (h : PolyQ w Q p f cs) : PolyQ w (fun k => Q k ∧ k < w.heap.size) p f cs := by
  have hl := h.lt
  obtain ⟨⟨cb, off, cap, h1, h2, h3, h4, h5⟩, hp, hne⟩ := h
  exact ⟨⟨cb, off, cap, h1, ⟨h2, h3⟩, h3, h4, h5⟩, ⟨hp, hl⟩, hne⟩
theorem GFQ.imp {w : World} {Q Q' : Nat → Prop} {f : Nat} {F : Fld} (h : GFQ w Q f F) (hq : ∀ k, Q k → Q' k) : GFQ w Q' f F := by
  obtain ⟨⟨eb, lb, z, o, h1, h2, h3, h4, h5, h6, h7⟩, h8⟩ := h
  exact ⟨⟨eb, lb, z, o, h1, h2, hq _ h3, h4, hq _ h5, h6.imp hq, h7.imp hq⟩, hq _ h8⟩
theorem GFQ.bound {w : World} {Q : Nat → Prop} {f : Nat} {F : Fld} (h : GFQ w Q f F) : GFQ w (fun k => Q k ∧ k < w.heap.size) f F := by
  obtain ⟨⟨eb, lb, z, o, h1, h2, h3, h4, h5, h6, h7⟩, h8⟩ := h
  exact ⟨⟨eb, lb, z, o, h1, h2, ⟨h3, h2.lt⟩, h4, ⟨h5, h4.lt⟩, h6.bound, h7.bound⟩, ⟨h8, (Array.getElem?_eq_some_iff.1 h1).1⟩⟩
/-- A new block of two numbers. -/
theorem SlQ.lit2 {w : World} {Q : Nat → Prop} (x y b : Nat) (hb : b = w.heap.size) (hq : Q b) : SlQ (w.alloc (.cells #[.int .i64 (x : Nat), .int .i64 (y : Nat)] 3)) Q (some ⟨b, 0, none⟩) [x, y] 2 := by
  subst hb
  refine ⟨Nat.le_refl _, fun _ => ⟨_, 0, rfl, hq, by simp, fun j hj => ?_⟩⟩
  have : j = 0 ∨ j = 1 := by simp at hj; omega
  rw [World.cell?_alloc_at _ _ _ _ (by simp)]
  rcases this with rfl | rfl <;> rfl

/-- Block e is an encoder of the field f, all of it at E or behind it. -/
structure EncQ (w : World) (E e f : Nat) (v : Value) (n : Nat) (ps : List Value) : Prop where
  arr : Arr w 95 e [.pointer (some ⟨f, 0, none⟩), v]
  lo : E ≤ e
  own : w.ownsRow E 63 1 v n ps
theorem EncQ.sep {w : World} {E e f : Nat} {v : Value} {n : Nat} {ps : List Value} (h : EncQ w E e f v n ps) : v.ownBlock ≠ some e := fun he => own_ne_arr h.own h.arr (by decide) he.symm
theorem EncQ.mod {S : Nat → Prop} {w w' : World} {E e f : Nat} {v : Value} {n : Nat} {ps : List Value} (h : EncQ w E e f v n ps) (hm : Mod S w w') (h1 : ¬ S e) (h2 : ∀ k, v.ownBlock = some k → ¬ S k) : EncQ w' E e f v n ps :=
  ⟨h.arr.mod hm h1, h.lo, own_mod h.own hm h2⟩
theorem EncQ.below {w w' : World} {E e f : Nat} {v : Value} {n : Nat} {ps : List Value} (h : EncQ w E e f v n ps) (hb : Below w.heap.size w w') : EncQ w' E e f v n ps := h.mod (Mod.of_below (S := fun _ => False) hb) (fun h => h) (fun _ _ h => h)
/-- The blocks of an encoder's polynomials: not these. -/
def Away (L e : Nat) (v : Value) (k : Nat) : Prop := k ≠ L ∧ k ≠ e ∧ v.ownBlock ≠ some k
theorem Try.infoPoly : (Try.prog.info? 63).map (fun i => (i.zero, i.size, i.bytes)) = some (some (.pointer none), 1, 8) := by kernel_rfl

def NewEncPost (L f : Nat) (w : World) (e : Ending) (w' : World) : Prop :=
  ∃ b g v, e = .returned (.pointer (some ⟨b, 0, none⟩)) ∧ EncQ w' w.heap.size b f v 1 [.pointer (some ⟨g, 0, none⟩)] ∧ PolyQ w' (Away L b v) g f [1] ∧ Below w.heap.size w w'
set_option maxRecDepth 100000 in
set_option maxHeartbeats 1600000 in
theorem enc_new (L f : Nat) (w : World) (hL : L < w.heap.size) :
    Calls Try.prog 41 #[.pointer (some ⟨f, 0, none⟩)] w (NewEncPost L f w) := by
  have hb0 : Below w.heap.size w (w.alloc (.cells #[.int .i64 (1 : Nat)] 3)) := (Below.refl _ _).alloc (Nat.le_refl _) _
  have HP := Lib.hid (poly_new (fun k => w.heap.size ≤ k) f (some ⟨w.heap.size, 0, none⟩) [1] 1 (w.alloc (.cells #[.int .i64 (1 : Nat)] 3)) (fun k hk => by simp at hk; omega) (by simp) (by simp) (SlQ.lit 1 _ rfl (Nat.le_refl _)))
  go_enter Try.func41, Try.ntmps41
  go_wp2_with fail
  refine HP.out.mono ?_
  rintro e w1 ⟨g, rfl, hg, hb1, hgl⟩
  have hb2 := hb0.trans (hb1.mono (by simp))
  have HG : Hid (PolyQ w1 (fun k => w.heap.size ≤ k ∧ k < w1.heap.size) g f [1]) := Lib.hid hg.bound
  have HB := Lib.hid hb2
  clear hb0 hb1 hg hb2
  go_wp2_with fail
  go_ret
  have hS := HB.out.size
  have hbb : Below w1.heap.size w1 ((w1.alloc (.cells #[.pointer (some ⟨g, 0, none⟩)] 63)).alloc (.cells #[.pointer (some ⟨f, 0, none⟩), .slice (some ⟨w1.heap.size, 0, none⟩) 1 1] 95)) := ((Below.refl _ _).alloc (Nat.le_refl _) _).alloc (by simp) _
  refine ⟨w1.heap.size + 1, g, .slice (some ⟨w1.heap.size, 0, none⟩) 1 1, by simp, ⟨?_, by omega, ?_⟩, ?_, HB.out.trans (hbb.mono hS)⟩
  · have := Arr.new (w1.alloc (.cells #[.pointer (some ⟨g, 0, none⟩)] 63)) 95 [.pointer (some ⟨f, 0, none⟩), .slice (some ⟨w1.heap.size, 0, none⟩) 1 1]
    simpa using this
  · refine ⟨rfl, .inr ⟨w1.heap.size, 1, #[.pointer (some ⟨g, 0, none⟩)], rfl, hS, ?_, by omega, by unfold maxLen; omega, rfl, rfl⟩⟩
    rw [Below.heap_alloc _ _ _ (by simp), heap_alloc_new]
  · refine (HG.out.below hbb).imp fun k hk => ⟨by omega, by omega, ?_⟩
    simp [Value.ownBlock]; omega

set_option maxRecDepth 100000 in
theorem getBase (Q : Nat → Prop) (F : Fld) (f : Nat) (w : World) (h : GFQ w Q f F) :
    Calls Try.prog 61 #[.pointer (some ⟨f, 0, none⟩)] w fun e w' => e = .returned (.int .i64 F.base) ∧ w = w' := by
  obtain ⟨⟨eb, lb, z, o, h1, _⟩, _⟩ := h
  have hc : w.cell? ⟨f, 6, none⟩ = some (.int .i64 F.base) := by rw [cell_of_row w f 6 _ _ _ h1]; rfl
  clear h1
  go_enter Try.func61, Try.ntmps61
  go_wp2_with fail
  go_ret
  exact ⟨rfl, rfl⟩
end Go.Proofs.Ythagfgfefkpikaa
