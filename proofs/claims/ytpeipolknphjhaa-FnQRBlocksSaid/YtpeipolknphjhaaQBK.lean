/-
  Blocks of words in memory: a slice of pointers to structs that hold slices of bytes. No condition beyond the bounds that each theorem states.
-/
import Derived.Test.YtpeipolknphjhaaQWE
import Derived.Test.YtpeipolknphjhaaQBI
import Derived.Test.YtpeipolknphjhaaGRD
namespace Go.Proofs.Ytpeipolknphjhaa
open Go.RowKit Go.Qz Go.Qz.QW Go.Qz.QI
set_option linter.unusedVariables false

def ptrs (P : Nat → Nat) (nb k : Nat) : List Value := (List.range nb).map fun j => if j < k then Value.pointer (some ⟨P j, 0, none⟩) else .pointer none
theorem ptrs_get (P : Nat → Nat) (nb k j : Nat) (h : j < nb) : (ptrs P nb k)[j]? = some (if j < k then .pointer (some ⟨P j, 0, none⟩) else .pointer none) := by simp [ptrs, h]
theorem ptrs_zero (P : Nat → Nat) (nb : Nat) : ptrs P nb 0 = List.replicate nb (.pointer none) := by
  apply List.ext_getElem (by simp [ptrs])
  intro j h1 h2
  simp [ptrs]
theorem ptrs_set (P : Nat → Nat) (nb k p : Nat) : (ptrs P nb k).set k (.pointer (some ⟨p, 0, none⟩)) = ptrs (fun j => if j = k then p else P j) nb (k + 1) := by
  apply List.ext_getElem (by simp [ptrs])
  intro j h1 h2
  simp only [ptrs, List.getElem_set, List.getElem_map, List.getElem_range]
  by_cases e : k = j
  · subst e; rw [if_pos rfl, if_pos (by omega), if_pos rfl]
  · rw [if_neg e]
    by_cases h : j < k
    · rw [if_pos h, if_pos (by omega), if_neg (fun h => e h.symm)]
    · rw [if_neg h, if_neg (by omega)]
structure Blks (w : World) (R k : Nat) (s : Sh) (P C : Nat → Nat) (f : Nat → Nat → Nat) : Prop where
  hd : Arr w 75 R (ptrs P s.nb k)
  st : ∀ j, j < k → Arr w 103 (P j) [.int .i64 (s.ds j : Nat), .slice (some ⟨C j, 0, none⟩) (s.len j) (s.len j)]
  by_ : ∀ j, j < k → Arr w 5 (C j) (rowV (fun i => .int .u8 (f j i : Nat)) (s.len j))
  lo : ∀ j, j < k → R < C j ∧ C j < P j
  apart : ∀ i j, i < j → j < k → P i < C j
theorem Blks.mod {S : Nat → Prop} {w w' : World} {R k : Nat} {s : Sh} {P C : Nat → Nat} {f : Nat → Nat → Nat} (h : Blks w R k s P C f) (hm : Mod S w w') (hs : ∀ b, R ≤ b → ¬ S b) : Blks w' R k s P C f :=
  ⟨h.hd.mod hm (hs _ (Nat.le_refl _)), fun j hj => (h.st j hj).mod hm (hs _ (by have := h.lo j hj; omega)), fun j hj => (h.by_ j hj).mod hm (hs _ (by have := h.lo j hj; omega)), h.lo, h.apart⟩
theorem Blks.below {w w' : World} {R k : Nat} {s : Sh} {P C : Nat → Nat} {f : Nat → Nat → Nat} (h : Blks w R k s P C f) (hb : Below w.heap.size w w') : Blks w' R k s P C f := h.mod (Mod.of_below (S := fun _ => False) hb) (fun _ _ h => h)
theorem Blks.head {w : World} {R k : Nat} {s : Sh} {P C : Nat → Nat} {f : Nat → Nat → Nat} (h : Blks w R k s P C f) (j : Nat) (hj : j < k) (hk : k ≤ s.nb) : w.cell? ⟨R, j, none⟩ = some (.pointer (some ⟨P j, 0, none⟩)) := by
  rw [h.hd.cell?, ptrs_get _ _ _ _ (by omega), if_pos hj]
theorem Blks.words {w : World} {R k : Nat} {s : Sh} {P C : Nat → Nat} {f : Nat → Nat → Nat} (h : Blks w R k s P C f) (j : Nat) (hj : j < k) : w.cell? ⟨P j, 1, none⟩ = some (.slice (some ⟨C j, 0, none⟩) (s.len j) (s.len j)) := by
  rw [(h.st j hj).cell?]; rfl
theorem Blks.data {w : World} {R k : Nat} {s : Sh} {P C : Nat → Nat} {f : Nat → Nat → Nat} (h : Blks w R k s P C f) (j : Nat) (hj : j < k) : w.cell? ⟨P j, 0, none⟩ = some (.int .i64 (s.ds j : Nat)) := by
  rw [(h.st j hj).cell?]; rfl
theorem Blks.cell {w : World} {R k : Nat} {s : Sh} {P C : Nat → Nat} {f : Nat → Nat → Nat} (h : Blks w R k s P C f) (j i : Nat) (hj : j < k) (hi : i < s.len j) : w.cell? ⟨C j, i, none⟩ = some (.int .u8 (f j i : Nat)) := by
  rw [(h.by_ j hj).cell?, rowV_get _ _ _ hi]
theorem Blks.congr {w : World} {R k : Nat} {s : Sh} {P C : Nat → Nat} {f g : Nat → Nat → Nat} (h : Blks w R k s P C f) (hg : ∀ j i, j < k → i < s.len j → f j i = g j i) : Blks w R k s P C g :=
  ⟨h.hd, h.st, fun j hj => by have := h.by_ j hj; rwa [rowV_congr (g := fun i => .int .u8 (g j i : Nat)) (fun i hi => by rw [hg j i hj hi])] at this, h.lo, h.apart⟩
theorem Blks.neC {w : World} {R k : Nat} {s : Sh} {P C : Nat → Nat} {f : Nat → Nat → Nat} (h : Blks w R k s P C f) {i j : Nat} (hi : i < k) (hj : j < k) : P i ≠ C j ∧ (i ≠ j → C i ≠ C j) := by
  rcases Nat.lt_trichotomy i j with e | e | e
  · have := h.apart i j e hj; have := h.lo i hi; exact ⟨by omega, by omega⟩
  · subst e; have := h.lo i hi; exact ⟨by omega, by omega⟩
  · have := h.apart j i e hi; have := h.lo i hi; have := h.lo j hj; exact ⟨by omega, by omega⟩
theorem Blks.set_ {w : World} {R k : Nat} {s : Sh} {P C : Nat → Nat} {f : Nat → Nat → Nat} (h : Blks w R k s P C f) (j i v : Nat) (hj : j < k) : Blks (w.setCell ⟨C j, i, none⟩ (.int .u8 (v : Nat))) R k s P C (QI.put f j i v) := by
  have hm := Mod.set1 w (C j) i (.int .u8 (v : Nat))
  refine ⟨h.hd.mod hm (by have := h.lo j hj; omega), fun j' hj' => (h.st j' hj').mod hm (h.neC hj' hj).1, fun j' hj' => ?_, h.lo, h.apart⟩
  by_cases e : j' = j
  · subst e
    have := (h.by_ j' hj').set_ i (.int .u8 (v : Nat))
    rw [rowV_set (g := fun i' => .int .u8 (QI.put f j' i v j' i' : Nat)) (fun i' hi' => by unfold QI.put; by_cases e : i' = i <;> simp [e])] at this
    exact this
  · have := (h.by_ j' hj').mod hm ((h.neC hj' hj).2 e)
    rw [rowV_congr (g := fun i' => .int .u8 (QI.put f j i v j' i' : Nat)) (fun i' hi' => by unfold QI.put; rw [if_neg (fun h => e h.1)])] at this
    exact this
theorem Blks.zero {w : World} (s : Sh) (P C : Nat → Nat) (f : Nat → Nat → Nat) : Blks (w.alloc (.cells (zeros s.nb (.pointer none)) 75)) w.heap.size 0 s P C f :=
  ⟨by rw [ptrs_zero]; exact Arr.new w _ _, fun j hj => by omega, fun j hj => by omega, fun j hj => by omega, fun i j h hj => by omega⟩
theorem Blks.push {w : World} {R k : Nat} {s : Sh} {P C : Nat → Nat} (h : Blks w R k s P C (fun _ _ => 0)) (hR : R < w.heap.size) :
    Blks (((w.alloc (.cells (zeros (s.len k) (.int .u8 0)) 5)).alloc (.cells #[.int .i64 (s.ds k : Nat), .slice (some ⟨w.heap.size, 0, none⟩) (s.len k) (s.len k)] 103)).setCell ⟨R, k, none⟩ (.pointer (some ⟨w.heap.size + 1, 0, none⟩))) R (k + 1) s
      (fun j => if j = k then w.heap.size + 1 else P j) (fun j => if j = k then w.heap.size else C j) (fun _ _ => 0) := by
  have hm1 := (Mod.refl (S := fun _ => False) w).alloc (.cells (zeros (s.len k) (.int .u8 0)) 5)
  have hm2 := hm1.alloc (.cells #[.int .i64 (s.ds k : Nat), .slice (some ⟨w.heap.size, 0, none⟩) (s.len k) (s.len k)] 103)
  have hm3 := Mod.set1 ((w.alloc (.cells (zeros (s.len k) (.int .u8 0)) 5)).alloc (.cells #[.int .i64 (s.ds k : Nat), .slice (some ⟨w.heap.size, 0, none⟩) (s.len k) (s.len k)] 103)) R k (.pointer (some ⟨w.heap.size + 1, 0, none⟩))
  refine ⟨?_, fun j hj => ?_, fun j hj => ?_, fun j hj => ?_, fun i j hij hj => ?_⟩
  · have := (h.hd.mod hm2 (fun h => h)).set_ k (.pointer (some ⟨w.heap.size + 1, 0, none⟩))
    rw [ptrs_set] at this
    exact this
  · by_cases e : j = k
    · subst e
      simp only [if_true]
      have := Arr.new (w.alloc (.cells (zeros (s.len j) (.int .u8 0)) 5)) 103 [.int .i64 (s.ds j : Nat), .slice (some ⟨w.heap.size, 0, none⟩) (s.len j) (s.len j)]
      have := this.mod hm3 (by simp; omega)
      simpa using this
    · simp only [if_neg e]
      have hj' : j < k := by omega
      exact ((h.st j hj').mod hm2 (fun h => h)).mod hm3 (by have := h.lo j hj'; omega)
  · by_cases e : j = k
    · subst e
      simp only [if_true]
      rw [rowV_const (.int .u8 ((0 : Nat) : Int))]
      have := Arr.new w 5 (List.replicate (s.len j) (.int .u8 0))
      have := (this.mod (Mod.of_below ((Below.refl _ _).alloc (Nat.le_refl _) (.cells #[.int .i64 (s.ds j : Nat), .slice (some ⟨w.heap.size, 0, none⟩) (s.len j) (s.len j)] 103))) (S := fun _ => False) (fun h => h)).mod hm3 (by omega)
      exact this
    · simp only [if_neg e]
      have hj' : j < k := by omega
      exact ((h.by_ j hj').mod hm2 (fun h => h)).mod hm3 (by have := h.lo j hj'; omega)
  · by_cases e : j = k
    · subst e; simp; omega
    · simp only [if_neg e]; exact h.lo j (by omega)
  · by_cases e : j = k
    · subst e
      have := (h.st i (by omega)).lt
      simp [show i ≠ j by omega]; omega
    · simp only [if_neg e, if_neg (show i ≠ k by omega)]; exact h.apart i j hij (by omega)

set_option maxRecDepth 100000 in
theorem blkWords (p : Nat) (v : Value) (w : World) (h : w.cell? ⟨p, 1, none⟩ = some v) :
    Calls Try.prog 46 #[.pointer (some ⟨p, 0, none⟩)] w fun e w' => e = .returned v ∧ w = w' := by
  go_enter Try.func46, Try.ntmps46
  go_wp2_with fail
  go_ret
  exact ⟨rfl, rfl⟩
set_option maxRecDepth 100000 in
theorem blkData (p : Nat) (v : Value) (w : World) (h : w.cell? ⟨p, 0, none⟩ = some v) :
    Calls Try.prog 47 #[.pointer (some ⟨p, 0, none⟩)] w fun e w' => e = .returned v ∧ w = w' := by
  go_enter Try.func47, Try.ntmps47
  go_wp2_with fail
  go_ret
  exact ⟨rfl, rfl⟩
set_option maxRecDepth 100000 in
theorem blkNew (n : Int) (v : Value) (A : Option Addr) (m c : Nat) (w : World) :
    Calls Try.prog 67 #[.int .i64 n, .slice A m c] w fun e w' => e = .returned (.pointer (some ⟨w.heap.size, 0, none⟩)) ∧ w.alloc (.cells #[.int .i64 n, .slice A m c] 103) = w' := by
  go_enter Try.func67, Try.ntmps67
  go_wp2_with fail
  go_ret
  exact ⟨rfl, rfl⟩
end Go.Proofs.Ytpeipolknphjhaa
