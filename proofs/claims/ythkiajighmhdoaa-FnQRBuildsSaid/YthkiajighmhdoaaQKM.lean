/-
  The matrix of bytes in memory: made, set, read, walked. No condition beyond the bounds that each theorem states.
-/
import Derived.Test.YthkiajighmhdoaaRows
import Derived.Test.YthkiajighmhdoaaGRD
import Derived.WideLaws
import Derived.OwnWalk
import Derived.Deep.DeepCutAuto
import Derived.RegionTactic
import Derived.BigRegion
namespace Go.Proofs.Ythkiajighmhdoaa
open Go.RowKit Go.Qz
set_option linter.unusedVariables false

theorem Try.infoRowI : (Try.prog.info? 45).map (fun i => (i.zero, i.size, i.bytes)) = some (some (.slice none 0 0), 1, 24) := by kernel_rfl
theorem Try.infoI8 : (Try.prog.info? 46).map (fun i => (i.zero, i.size, i.bytes)) = some (some (.int .i8 0), 1, 1) := by kernel_rfl
/-- Block M is a ByteMatrix of n rows of n cells in the grid B. -/
structure MatAt (w : World) (M B n : Nat) (f : Nat → Nat → Value) : Prop where
  obj : Arr w 119 M [.slice (some ⟨B, 0, none⟩) n n, .int .i64 n, .int .i64 n]
  grid : Grid w 45 46 B n n n f
  lt : B + n < M
theorem MatAt.below {w w' : World} {M B n : Nat} {f : Nat → Nat → Value} (h : MatAt w M B n f) (hb : Below w.heap.size w w') : MatAt w' M B n f := ⟨h.obj.below hb h.obj.lt, h.grid.below hb, h.lt⟩
theorem MatAt.set_ {w : World} {M B n : Nat} {f g : Nat → Nat → Value} (h : MatAt w M B n f) (r c : Nat) (hr : r < n) (v : Value) (hg : ∀ r' c', r' < n → c' < n → g r' c' = if r' = r ∧ c' = c then v else f r' c') : MatAt (w.setCell ⟨B + 1 + r, c, none⟩ v) M B n g :=
  ⟨h.obj.mod (Mod.set1 w (B + 1 + r) c v) (by have := h.lt; omega), h.grid.set_ r c hr v hg, h.lt⟩

def NewMatPost (n : Nat) (w : World) (e : Ending) (w' : World) : Prop := ∃ M B, e = .returned (.pointer (some ⟨M, 0, none⟩)) ∧ MatAt w' M B n (fun _ _ => .int .i8 0) ∧ w.heap.size ≤ B ∧ Below w.heap.size w w'
set_option maxRecDepth 100000 in
set_option maxHeartbeats 3200000 in
theorem mat_new (n : Nat) (hn : n ≤ 400) (w : World) :
    Calls Try.prog 31 #[.int .i64 n, .int .i64 n] w (NewMatPost n w) := by
  have hmkH := fun W => run_make1 (P := Try.prog) 39 45 (.slice none 0 0) 24 Try.underlying39 Try.infoRowI rfl (by decide) n (by omega) .i64 .i64 n rfl W
  have hmkW := fun X => run_make1 (P := Try.prog) 45 46 (.int .i8 0) 1 Try.underlying45 Try.infoI8 rfl (by decide) n (by omega) .i64 .i64 n rfl X
  have hG := Grid.zero (w := w) 45 46 n n (fun _ _ => .int .i8 0)
  have hs0 : (w.alloc (.cells (zeros n (.slice none 0 0)) 45)).heap.size = w.heap.size + 1 := by simp
  have hb0 : Below w.heap.size w (w.alloc (.cells (zeros n (.slice none 0 0)) 45)) := (Below.refl _ _).alloc (Nat.le_refl _) _
  go_enter Try.func31, Try.ntmps31
  go_wp2_with fail
  obtain ⟨W3, hW3⟩ : ∃ W3, W3 = w.alloc (.cells (zeros n (.slice none 0 0)) 45) := ⟨_, rfl⟩
  rw [← hW3] at hG hb0 hs0 ⊢
  obtain ⟨G, hGe⟩ : ∃ G, G = w.heap.size := ⟨_, rfl⟩
  rw [← hGe] at hG hb0 hs0 ⊢
  have HGE := Lib.hid hGe
  have HS0 : Hid (W3.heap.size = G + 1 + 0) := Lib.hid hs0
  clear hW3 hGe hs0 hmkH
  go_loopw [6] (fun i wr => ∃ k : Nat, k ≤ n ∧ i = .int .i64 k ∧ Hid (Grid wr 45 46 G n n k (fun _ _ => .int .i8 0)) ∧ Hid (wr.heap.size = G + 1 + k) ∧ Hid (Below G w wr)) (fun i _ => n - (intOf i).toNat)
  case atStart => exact ⟨0, by omega, rfl, Lib.hid hG, HS0, Lib.hid hb0⟩
  case round =>
    obtain ⟨k, hk, rfl, HG, HSZ, HB⟩ := hrel
    clear hG hb0 HS0
    by_cases hlt : k < n
    · have hck : wr.cell? ⟨G, k, none⟩ = some (.slice none 0 0) := by rw [HG.out.hd.cell?, hdr_get _ _ _ _ _ hlt, if_neg (by omega)]
      have hsz : wr.heap.size = G + 1 + k := HSZ.out
      have hk0 : (0 : Int) ≤ (k : Int) := by omega
      have hk1 : (k : Int) < (n : Int) := by omega
      have hGw := HG.out.hd.lt
      have hck2 : (wr.alloc (.cells (zeros n (.int .i8 0)) 46)).cell? ⟨G, k, none⟩ = some (.slice none 0 0) := (World.cell?_alloc_past _ _ _ hGw).trans hck
      have hfk2 : (wr.alloc (.cells (zeros n (.int .i8 0)) 46)).frozen? ⟨G, k, none⟩ = false := (HG.out.hd.mod (S := fun _ => False) ((Mod.refl _).alloc (.cells (zeros n (.int .i8 0)) 46)) (fun h => h)).free k
      have HG2 := Lib.hid (HG.out.push (.int .i8 0) (fun c hc => rfl) hsz)
      have HB2 : Hid (Below G w ((wr.alloc (.cells (zeros n (.int .i8 0)) 46)).setCell ⟨G, k, none⟩ (.slice (some ⟨G + 1 + k, 0, none⟩) n n))) := Lib.hid ((HB.out.alloc (by omega) _).setCell (p := ⟨G, k, none⟩) (Nat.le_refl _) _)
      have HS2 : Hid (((wr.alloc (.cells (zeros n (.int .i8 0)) 46)).setCell ⟨G, k, none⟩ (.slice (some ⟨G + 1 + k, 0, none⟩) n n)).heap.size = G + 1 + (k + 1)) := Lib.hid (by simp [World.setCell]; omega)
      clear hck HG HB HSZ
      go_wp2_with fail
      go_roundw
      case rel => exact ⟨k + 1, by omega, by go_num, HG2, HS2, HB2⟩
      case measure => simp [intOf]; omega
    · obtain rfl : k = n := by omega
      have hsz : wr.heap.size = G + 1 + k := HSZ.out
      have hbb : Below wr.heap.size wr (wr.alloc (.cells #[.slice (some ⟨G, 0, none⟩) k k, .int .i64 k, .int .i64 k] 119)) := (Below.refl _ _).alloc (Nat.le_refl _) _
      have HM : Hid (MatAt (wr.alloc (.cells #[.slice (some ⟨G, 0, none⟩) k k, .int .i64 k, .int .i64 k] 119)) wr.heap.size G k (fun _ _ => .int .i8 0)) := Lib.hid ⟨Arr.new _ _ _, HG.out.below hbb, by omega⟩
      have HB2 : Hid (Below G w (wr.alloc (.cells #[.slice (some ⟨G, 0, none⟩) k k, .int .i64 k, .int .i64 k] 119))) := Lib.hid (HB.out.trans (hbb.mono (by omega)))
      have HSZ := Lib.hid hsz
      clear hsz hbb
      go_wp2_with fail
      go_ret
      exact ⟨wr.heap.size, G, rfl, HM.out, by rw [HGE.out]; exact Nat.le_refl _, by rw [← HGE.out]; exact HB2.out⟩

set_option maxRecDepth 100000 in
set_option maxHeartbeats 1600000 in
theorem mat_set (M B n x y : Nat) (v : Value) (h1 : v.oneCell' = true) (f : Nat → Nat → Value) (hx : x < n) (hy : y < n) (hn : n ≤ 400) (i : Int) (hv : v = .int .i8 i) (w : World) (h : MatAt w M B n f) :
    Calls Try.prog 118 #[.pointer (some ⟨M, 0, none⟩), .int .i64 x, .int .i64 y, v] w fun e w' => e = .returned (.tuple #[]) ∧ w' = w.setCell ⟨B + 1 + y, x, none⟩ v := by
  subst hv
  have a0 := h.obj.cell? 0
  simp only [List.getElem?_cons_zero] at a0
  have ch := h.grid.head y hy hy
  have cl := h.grid.cell y x hy hx
  have fl := (h.grid.row y hy).free x
  have hx0 : (0 : Int) ≤ (x : Int) := by omega
  have hx1 : (x : Int) < (n : Int) := by omega
  have hy0 : (0 : Int) ≤ (y : Int) := by omega
  have hy1 : (y : Int) < (n : Int) := by omega
  generalize f y x = z at cl
  clear h
  go_enter Try.func118, Try.ntmps118
  go_wp2_with fail
  go_end0
  exact ⟨rfl, rfl⟩
theorem mat_array (M B n : Nat) (f : Nat → Nat → Value) (w : World) (h : MatAt w M B n f) :
    Calls Try.prog 74 #[.pointer (some ⟨M, 0, none⟩)] w fun e w' => e = .returned (.slice (some ⟨B, 0, none⟩) n n) ∧ w = w' := by
  have a0 := h.obj.cell? 0
  simp only [List.getElem?_cons_zero] at a0
  clear h
  go_enter Try.func74, Try.ntmps74
  go_wp2_with fail
  go_ret
  exact ⟨rfl, rfl⟩
theorem mat_width (M B n : Nat) (f : Nat → Nat → Value) (w : World) (h : MatAt w M B n f) :
    Calls Try.prog 96 #[.pointer (some ⟨M, 0, none⟩)] w fun e w' => e = .returned (.int .i64 n) ∧ w = w' := by
  have a0 := h.obj.cell? 1
  simp only [List.getElem?_cons_zero, List.getElem?_cons_succ] at a0
  clear h
  go_enter Try.func96, Try.ntmps96
  go_wp2_with fail
  go_ret
  exact ⟨rfl, rfl⟩
theorem mat_height (M B n : Nat) (f : Nat → Nat → Value) (w : World) (h : MatAt w M B n f) :
    Calls Try.prog 97 #[.pointer (some ⟨M, 0, none⟩)] w fun e w' => e = .returned (.int .i64 n) ∧ w = w' := by
  have a0 := h.obj.cell? 2
  simp only [List.getElem?_cons_zero, List.getElem?_cons_succ] at a0
  clear h
  go_enter Try.func97, Try.ntmps97
  go_wp2_with fail
  go_ret
  exact ⟨rfl, rfl⟩
end Go.Proofs.Ythkiajighmhdoaa
