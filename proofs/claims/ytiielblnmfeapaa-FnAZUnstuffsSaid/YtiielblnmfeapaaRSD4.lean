
/-
  Divide, walked. No condition beyond the bounds that each theorem states.
-/
import Derived.Test.YtiielblnmfeapaaRSD3
import Derived.Deep.LoopGhost
namespace Go.Proofs.Ytiielblnmfeapaa
open Go.RowKit Go.Qz Go.Qz.RS
set_option linter.unusedVariables false

theorem quietL {P : Program} {f : FuncId} {args : Array Value} {w : World} {n : Nat} {v : Value}
    (h : Calls P f args (w.drewN n) fun e w' => e = .returned v ∧ w.drewN n = w') : Calls P f args (w.drewN n) fun e w'' => e = .returned v ∧ ∃ m, w'' = w.drewN m :=
  h.mono fun _ _ ⟨he, hm⟩ => ⟨he, n, hm.symm⟩
theorem quietN {P : Program} {f : FuncId} {args : Array Value} {w : World} {n : Nat} {v : Value}
    (h : Calls P f args (w.drewN n) fun e w' => e = .returned v ∧ ∃ m, w' = (w.drewN n).drewN m) : Calls P f args (w.drewN n) fun e w'' => e = .returned v ∧ ∃ m, w'' = w.drewN m :=
  h.mono fun _ _ ⟨he, m, hm⟩ => ⟨he, n + m, by rw [hm, World.drewN_drewN]⟩
theorem PolyQ.drewN {w : World} {Q : Nat → Prop} {p f : Nat} {cs : List Nat} (h : PolyQ w Q p f cs) (n : Nat) : PolyQ (w.drewN n) Q p f cs := h.below (below_drewN (Below.refl _ _) _)
theorem GFQ.drewN {w : World} {Q : Nat → Prop} {f : Nat} {F : Fld} (h : GFQ w Q f F) (n : Nat) : GFQ (w.drewN n) Q f F := h.below (below_drewN (Below.refl _ _) _)

end Go.Proofs.Ytiielblnmfeapaa
