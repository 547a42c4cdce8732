/-
  pxSame, walked. No condition beyond the bounds that the theorem states.
-/
import Derived.Test.YthgnmcofclndlaaPCX
import Derived.Laws.BytesArg
namespace Go.Proofs.Ythgnmcofclndlaa
open Go.RowKit Go.Qz
set_option linter.unusedVariables false

theorem conv_rd {P : Program} {w : World} {A : Option Addr} {n c : Nat} {f : Nat → Int} {src dst e : TypeId} (hr : Rd w A n (fun j => .int .u8 (f j))) (hn : 1 ≤ n)
    (hs : P.underlying src = some (.slice e)) (he : P.underlying e = some (.int .u8)) (hd : P.underlying dst = some .string) :
    (convert src dst (.slice A n c)).run P w = .ok (.string (strOfNums ((List.range n).map f))) w := by
  obtain ⟨b, off, rfl, _, hc⟩ := hr (by omega)
  refine run_convert_bytes_arg w src e hs he b off n c ((List.range n).map f) (by simp) (fun i hi => ?_) dst hd
  rw [hc i hi]
  simp [List.getD_eq_getElem?_getD, hi]

set_option maxRecDepth 100000 in
set_option maxHeartbeats 1600000 in
theorem pxSame (A B : Option Addr) (n c d : Nat) (f g : Nat → Int) (w : World) (hn : 1 ≤ n) (hf : Rd w A n (fun j => .int .u8 (f j))) (hg : Rd w B n (fun j => .int .u8 (g j))) (hfg : ∀ j, j < n → f j = g j) :
    Calls Try.prog 9 #[.slice A n c, .slice B n d] w fun e w' => e = .returned (.bool true) ∧ w = w' := by
  have h1 := conv_rd (P := Try.prog) (c := c) (dst := 9) hf hn Try.underlying22 (by kernel_rfl) (by kernel_rfl)
  have h2 := conv_rd (P := Try.prog) (c := d) (dst := 9) hg hn Try.underlying22 (by kernel_rfl) (by kernel_rfl)
  have hm : (List.range n).map g = (List.range n).map f := List.map_congr_left (fun j hj => (hfg j (List.mem_range.1 hj)).symm)
  rw [hm] at h2
  generalize strOfNums ((List.range n).map f) = s at *
  clear hf hg hfg hm
  go_enter Try.func9, Try.ntmps9
  go_wp2_with fail
  go_ret
  exact ⟨rfl, rfl⟩
end Go.Proofs.Ythgnmcofclndlaa
