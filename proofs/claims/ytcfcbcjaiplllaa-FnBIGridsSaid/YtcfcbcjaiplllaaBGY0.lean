/-
  What a step of spec.BIGrid makes; the code of its switch. No condition beyond the bounds that the theorem states.
-/
import Derived.Test.YtcfcbcjaiplllaaBGX
import Derived.StillTailTactics
import Derived.BigQuiet
import Derived.Deep.CutRange
namespace Go.Proofs.Ytcfcbcjaiplllaa
open Go.RowKit Go.Qz
set_option linter.unusedVariables false

/-- What a step makes of rows, with the blocks that it may write. -/
def GPost (base G H : Nat) (R : Nat → Nat) (P2 : Pic) (t : Bool) (w1 wx : World) (o : Value) (is : Value) : Prop :=
  ∃ G2 c2 R2 C2, o = .slice (some ⟨G2, 0, none⟩) P2.H c2 ∧ is = .bool t ∧ WR wx base G2 P2.W (· < P2.H) P2.f R2 C2 ∧ Mod (fun q => q = G ∨ ∃ r, r < H ∧ q = R r) w1 wx ∧ (G2 = G ∨ w1.heap.size ≤ G2) ∧ ∀ r, r < P2.H → (∃ r', r' < H ∧ R2 r = R r') ∨ w1.heap.size ≤ R2 r
def BGPost (l : List Stp) (P0 : Pic) (w : World) (e : Ending) (w' : World) : Prop :=
  ∃ G A c c2, e = .returned (.tuple #[.slice (some ⟨G, 0, none⟩) (runS l P0).H c2, .slice A l.length c]) ∧ Hid (Rows2 w' (some ⟨G, 0, none⟩) (runS l P0).H (runS l P0).W (runS l P0).f) ∧ Hid (Rd w' A l.length (fun j => .bool (nthB (toldS l P0) j))) ∧ Below w.heap.size w w'
section
variable {base G H : Nat} {R C : Nat → Nat} {P : Pic} {s : Stp} {w1 wx : World}
theorem gp_same {c : Nat} (h8 : s.op ≠ 8) (h : WR wx base G P.W (· < P.H) (s.eff P) R C) (hm : Mod (fun q => q = G ∨ ∃ r, r < P.H ∧ q = R r) w1 wx) : GPost base G P.H R (s.run P) (s.told P) w1 wx (.slice (some ⟨G, 0, none⟩) P.H c) (.bool (s.told P)) := by
  have e : s.run P = ⟨P.W, P.H, s.eff P⟩ := by unfold Stp.run; rw [if_neg h8, if_neg h8]
  rw [e]
  exact ⟨G, c, R, C, rfl, rfl, h, hm, .inl rfl, fun r hr => .inl ⟨r, hr, rfl⟩⟩
theorem gp_new {G2 c : Nat} {R2 C2 : Nat → Nat} (h : WR wx w1.heap.size G2 (s.run P).W (· < (s.run P).H) (s.run P).f R2 C2) (hb : base ≤ w1.heap.size) (hm : Below w1.heap.size w1 wx) : GPost base G P.H R (s.run P) (s.told P) w1 wx (.slice (some ⟨G2, 0, none⟩) (s.run P).H c) (.bool (s.told P)) :=
  ⟨G2, c, R2, C2, rfl, rfl, h.base_ hb, Mod.of_below hm, .inr h.glo, fun r hr => .inr (h.rows.lo r hr)⟩
theorem WR.drew (h : WR w1 base G P.W (· < P.H) P.f R C) : WR w1.drew base G P.W (· < P.H) P.f R C := h.mod (Mod.drew (Mod.refl (S := fun _ => False) w1)) (fun h => h) (fun _ _ h => h)
theorem gp_set {c x y : Nat} {v : Bool} (h8 : s.op ≠ 8) (h4 : s.op ≠ 4) (h : WR w1 base G P.W (· < P.H) P.f R C) (hx : x < P.W) (hy : y < P.H) (hg : ∀ r c, r < P.H → c < P.W → s.eff P r c = if r = y ∧ c = x then v else P.f r c) :
    GPost base G P.H R (s.run P) (s.told P) w1 (w1.setCell ⟨R y, x, none⟩ (.bool v)).drew (.slice (some ⟨G, 0, none⟩) P.H c) (.bool true) := by
  have h1 := h.set_ y x hy hx v hg
  have h2 : WR (w1.setCell ⟨R y, x, none⟩ (.bool v)).drew base G P.W (· < P.H) (s.eff P) R C := h1.mod (Mod.drew (Mod.refl (S := fun _ => False) _)) (fun h => h) (fun _ _ h => h)
  have h3 : Mod (fun q => q = G ∨ ∃ r, r < P.H ∧ q = R r) w1 (w1.setCell ⟨R y, x, none⟩ (.bool v)).drew := (((Mod.refl w1).setCell (p := ⟨R y, x, none⟩) (.inl (.inr ⟨y, hy, rfl⟩)) _)).drew
  have h5 := gp_same (c := c) h8 h2 h3
  rw [told_true h4] at h5 ⊢
  exact h5
theorem gp_row {j g0 C3 c : Nat} {w3 : World} (ho : s.op = 9) (hY : s.Y = j) (hj : j < P.H) (h : WR w1 base G P.W (· < P.H) P.f R C) (hbase : base ≤ w1.heap.size) (hb : Below w1.heap.size w1 w3) (hg0 : w1.heap.size ≤ g0) (hg1 : g0 < w3.heap.size) (hfr : ∀ c, w3.frozen? ⟨g0, c, none⟩ = false) (hcl : ∀ c, c < P.W → w3.cell? ⟨g0, c, none⟩ = some (.bool (s.B c))) (hc : P.W ≤ C3 ∧ C3 ≤ maxLen) :
    GPost base G P.H R (s.run P) (s.told P) w1 (w3.setCell ⟨G, j, none⟩ (.slice (some ⟨g0, 0, none⟩) P.W C3)) (.slice (some ⟨G, 0, none⟩) P.H c) (.bool true) := by
  have e : s.run P = ⟨P.W, P.H, s.eff P⟩ := by unfold Stp.run; rw [if_neg (by omega), if_neg (by omega)]
  have ht : s.told P = true := told_true (by omega)
  have h3 := (h.below hb).put (g := s.eff P) j g0 C3 (· < P.H) (fun r' => ⟨fun h => .inl h, fun h => h.elim id (fun e => by rw [e]; exact hj)⟩) (by omega) hg1 (fun e => by have := h.glt; omega) (fun r' hr' e => by have := h.rows.lt r' hr'; omega) hfr (fun c hc' => by rw [eff9 ho, hY, if_pos rfl]; exact hcl c hc') (fun r' c hr' hc' hne => by rw [eff9 ho, hY, if_neg (by omega)]) hc ⟨_, (h.below hb).head j hj⟩
  rw [e, ht]
  refine ⟨G, c, _, _, rfl, rfl, h3, ((Mod.of_below hb).setCell (p := ⟨G, j, none⟩) (.inl (.inl rfl)) _), .inl rfl, fun r hr => ?_⟩
  by_cases er : r = j
  · rw [if_pos er]; exact .inr hg0
  · rw [if_neg er]; exact .inl ⟨r, hr, rfl⟩
end

/-- The parts of a code. -/
def cL : Code → Code
  | .seq a _ => a
  | c => c
def cR : Code → Code
  | .seq _ b => b
  | c => c
def cB : Code → Code
  | .block _ b => b
  | .loop b => b
  | c => c
noncomputable def bodyB : Code := Try.f16.body.getD .skip
/-- The switch of spec.BIGrid. -/
noncomputable def swB : Code := cL (cR (cR (cB (cL (cR (cB (cB (cR (cL (cR (cR (cR bodyB))))))))))))
/-- What is asked behind a panic says nothing of the frame. -/
def Qp (Q' : Exit → Act → World → Prop) : Exit → Act → World → Prop := fun e a w => match e with
  | .panic ch => ∀ a', Q' (.panic ch) a' w
  | e => Q' e a w
theorem Qp.wp {P : Program} {c : Code} {K : Act → World → Prop} {Q' : Exit → Act → World → Prop} {a : Act} {w : World} (h : c.wp P (Exit.then K (Qp Q')) a w) : c.wp P (Exit.then K Q') a w := by
  refine wp_mono h ?_
  intro e a' w' hq
  cases e with
  | normal => exact hq
  | exit id => exact hq
  | goto l => exact hq
  | ret => exact hq
  | panic ch => exact hq a'
  | outgrown => exact hq
structure Bnd (P : Pic) : Prop where
  w0 : 0 < P.W
  h0 : 0 < P.H
  wl : P.W < 1000
  hl : P.H < 1000
end Go.Proofs.Ytcfcbcjaiplllaa
