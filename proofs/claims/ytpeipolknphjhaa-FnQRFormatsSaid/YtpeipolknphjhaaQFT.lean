/-
  formatInfoDecodeLookup, walked. No condition.
-/
import Derived.Test.YtpeipolknphjhaaQRN
namespace Go.Proofs.Ytpeipolknphjhaa
open Go.RowKit Go.Qz Go.Qz.PC Go.Qz.QB
set_option linter.unusedVariables false
/-- The table of the formats' bits: rows of two numbers. -/
def FmtPost (w : World) (e : Ending) (w' : World) : Prop := ∃ (b : Nat) (p : Nat → Nat), e = .returned (.slice (some ⟨b, 0, none⟩) 32 32) ∧ Below w.heap.size w w' ∧
  Hid (∀ k, k < 32 → w'.cell? ⟨b, k, none⟩ = some (.slice (some ⟨p k, 0, none⟩) 2 2) ∧ w'.cell? ⟨p k, 0, none⟩ = some (.int .u64 (fb k : Nat)) ∧ w'.cell? ⟨p k, 1, none⟩ = some (.int .u64 k))
def addAll (w : World) (l : List Obj) : World := l.foldl World.alloc w
theorem addAll_heap : ∀ (l : List Obj) (w : World), (addAll w l).heap = w.heap ++ l.toArray
  | [], w => by simp [addAll]
  | o :: l, w => by
    have h := addAll_heap l (w.alloc o)
    show (addAll (w.alloc o) l).heap = _
    have h2 : (w.alloc o).heap = w.heap.push o := rfl
    rw [h, h2]
    simp
theorem addAll_below (B : Nat) : ∀ (l : List Obj) (w w0 : World), B ≤ w.heap.size → Below B w0 w → Below B w0 (addAll w l)
  | [], w, w0, _, h => h
  | o :: l, w, w0, hB, h => addAll_below B l (w.alloc o) w0 (by simp; omega) (h.alloc hB _)
def fmtRow (k : Nat) : Obj := .cells #[.int .u64 (fb k : Nat), .int .u64 k] 23
def fmtObjs (H : Nat) : List Obj := (List.range 32).map fmtRow ++ [.cells ((List.range 32).map (fun k => Value.slice (some ⟨H + k, 0, none⟩) 2 2)).toArray 109]
theorem FmtPost.mk {w W : World} {e : Ending} (he : e = .returned (.slice (some ⟨w.heap.size + 32, 0, none⟩) 32 32)) (hW : W = addAll w (fmtObjs w.heap.size)) : FmtPost w e W := by
  subst he hW
  have hh := addAll_heap (fmtObjs w.heap.size) w
  refine ⟨w.heap.size + 32, fun k => w.heap.size + k, rfl, addAll_below _ _ _ _ (Nat.le_refl _) (Below.refl _ _), Lib.hid fun k hk => ?_⟩
  have hr : (addAll w (fmtObjs w.heap.size)).heap[w.heap.size + k]? = some (fmtRow k) := by
    rw [hh, Array.getElem?_append_right (by omega), Nat.add_sub_cancel_left, List.getElem?_toArray]
    unfold fmtObjs
    rw [List.getElem?_append_left (by simp; omega)]
    simp [hk]
  have hb : (addAll w (fmtObjs w.heap.size)).heap[w.heap.size + 32]? = some (.cells ((List.range 32).map (fun k => Value.slice (some ⟨w.heap.size + k, 0, none⟩) 2 2)).toArray 109) := by
    rw [hh]; simp [fmtObjs]
  refine ⟨?_, ?_, ?_⟩
  · simp [World.cell?, hb, hk]
  · simp [World.cell?, hr, fmtRow]
  · simp [World.cell?, hr, fmtRow]
set_option maxRecDepth 100000 in
set_option maxHeartbeats 3200000 in
theorem fmtTable (w : World) : Calls Try.prog 69 #[] w (FmtPost w) := by
  go_enter Try.func69, Try.ntmps69
  go_wp2_with fail
  go_ret
  exact FmtPost.mk (by kernel_rfl) (by kernel_rfl)
end Go.Proofs.Ytpeipolknphjhaa
