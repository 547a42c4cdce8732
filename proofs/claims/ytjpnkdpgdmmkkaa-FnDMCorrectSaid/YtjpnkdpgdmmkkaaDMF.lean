/-
  Data Matrix: the engine's tables of factors and of logarithms, walked. No condition beyond the bounds that each theorem states.
-/
import Derived.Test.YtjpnkdpgdmmkkaaDMY
namespace Go.Proofs.Ytjpnkdpgdmmkkaa
open Go.RowKit Go.Qz Go.Qz.RS Go.Qz.DM
set_option linter.unusedVariables false

def addAll (w : World) (l : List Obj) : World := l.foldl World.alloc w
theorem addAll_heap : ∀ (l : List Obj) (w : World), (addAll w l).heap = w.heap ++ l.toArray
  | [], w => by simp [addAll]
  | o :: l, w => by
    have h := addAll_heap l (w.alloc o)
    show (addAll (w.alloc o) l).heap = _
    have h2 : (w.alloc o).heap = w.heap.push o := rfl
    rw [h, h2]
    simp
theorem addAll_below (B : Nat) : ∀ (l : List Obj) (w w0 : World), B ≤ w.heap.size → Below B w0 w → Below B w0 (addAll w l)
  | [], w, w0, _, h => h
  | o :: l, w, w0, hB, h => addAll_below B l (w.alloc o) w0 (by simp; omega) (h.alloc hB _)
theorem addAll_at (w : World) (l : List Obj) (k : Nat) (o : Obj) (h : l[k]? = some o) : (addAll w l).heap[w.heap.size + k]? = some o := by
  rw [addAll_heap, Array.getElem?_append_right (by omega), Nat.add_sub_cancel_left, List.getElem?_toArray, h]
def facObj (k : Nat) : Obj := .cells (ints (facOf (nth facN k))).toArray 3
def facObjs (H : Nat) : List Obj := (List.range 16).map facObj ++ [.cells ((List.range 16).map (fun k => Value.slice (some ⟨H + k, 0, none⟩) (nth facN k) (nth facN k))).toArray 57]
def FacPost (w : World) (e : Ending) (w' : World) : Prop := ∃ (b : Nat) (p : Nat → Nat), e = .returned (.slice (some ⟨b, 0, none⟩) 16 16) ∧ Below w.heap.size w w' ∧ w.heap.size ≤ b ∧
  Hid (∀ k, k < 16 → w'.cell? ⟨b, k, none⟩ = some (.slice (some ⟨p k, 0, none⟩) (nth facN k) (nth facN k)) ∧ Arr w' 3 (p k) (ints (facOf (nth facN k))) ∧ w.heap.size ≤ p k)
theorem FacPost.mk {w W : World} {e : Ending} (he : e = .returned (.slice (some ⟨w.heap.size + 16, 0, none⟩) 16 16)) (hW : W = addAll w (facObjs w.heap.size)) : FacPost w e W := by
  subst he hW
  refine ⟨w.heap.size + 16, fun k => w.heap.size + k, rfl, addAll_below _ _ _ _ (Nat.le_refl _) (Below.refl _ _), by omega, Lib.hid fun k hk => ⟨?_, ?_, by dsimp only; omega⟩⟩
  · have hb := addAll_at w (facObjs w.heap.size) 16 (.cells ((List.range 16).map (fun k => Value.slice (some ⟨w.heap.size + k, 0, none⟩) (nth facN k) (nth facN k))).toArray 57) (by simp [facObjs])
    simp [World.cell?, hb, hk]
  · exact addAll_at w (facObjs w.heap.size) k (facObj k) (by
      unfold facObjs
      rw [List.getElem?_append_left (by simp; omega), List.getElem?_map, List.getElem?_range hk]; rfl)
set_option maxRecDepth 100000 in
set_option maxHeartbeats 6400000 in
theorem dmFactors (w : World) : Calls Try.prog 36 #[] w (FacPost w) := by
  go_enter Try.func36, Try.ntmps36
  go_wp2_with fail
  go_ret
  exact FacPost.mk (by kernel_rfl) (by kernel_rfl)
def SetPost (w : World) (e : Ending) (w' : World) : Prop := ∃ b : Nat, e = .returned (.slice (some ⟨b, 0, none⟩) 16 16) ∧ Below w.heap.size w w' ∧ Hid (Arr w' 3 b (ints facN))
set_option maxRecDepth 100000 in
theorem dmSets (w : World) : Calls Try.prog 35 #[] w (SetPost w) := by
  go_enter Try.func35, Try.ntmps35
  go_wp2_with fail
  go_ret
  exact ⟨_, rfl, (Below.refl _ _).alloc (Nat.le_refl _) _, Lib.hid (Arr.new w 3 (ints facN))⟩

def LogPost (w : World) (e : Ending) (w' : World) : Prop := ∃ lb ab : Nat, e = .returned (.tuple #[.slice (some ⟨lb, 0, none⟩) 256 256, .slice (some ⟨ab, 0, none⟩) 255 255]) ∧ Below w.heap.size w w' ∧ Hid (Arr w' 3 lb (ints (RS.logs D 255))) ∧ Hid (Arr w' 3 ab (ints (rowF 255 (ex D)))) ∧ w.heap.size ≤ lb ∧ w.heap.size ≤ ab
set_option maxRecDepth 100000 in
set_option maxHeartbeats 6400000 in
theorem dmLogs (w : World) : Calls Try.prog 37 #[] w (LogPost w) := by
  have hmk1 := fun W => run_make1 (P := Try.prog) 57 3 (.int .i64 0) 8 Try.underlying57 Try.infoIntD rfl (by decide) 256 (by omega) .i64 .i64 256 rfl W
  have hmk2 := fun W => run_make1 (P := Try.prog) 57 3 (.int .i64 0) 8 Try.underlying57 Try.infoIntD rfl (by decide) 255 (by omega) .i64 .i64 255 rfl W
  go_enter Try.func37, Try.ntmps37
  go_wp2_with fail
  have hL := Arr.new w 3 (List.replicate 256 (.int .i64 0))
  have hb1 : Below w.heap.size w (w.alloc (.cells (zeros 256 (.int .i64 0)) 3)) := (Below.refl _ _).alloc (Nat.le_refl _) _
  obtain ⟨W1, hW1⟩ : ∃ W1, W1 = w.alloc (.cells (zeros 256 (.int .i64 0)) 3) := ⟨_, rfl⟩
  have hL2 : Arr W1 3 w.heap.size (List.replicate 256 (.int .i64 0)) := by rw [hW1]; exact hL
  have hs1 : W1.heap.size = w.heap.size + 1 := by rw [hW1]; simp
  rw [← hW1] at hb1 ⊢
  have hA := Arr.new W1 3 (List.replicate 255 (.int .i64 0))
  rw [hs1] at hA
  have hb2 : Below w.heap.size w (W1.alloc (.cells (zeros 255 (.int .i64 0)) 3)) := hb1.alloc (by omega) _
  have hL3 : Arr (W1.alloc (.cells (zeros 255 (.int .i64 0)) 3)) 3 w.heap.size (List.replicate 256 (.int .i64 0)) := hL2.below ((Below.refl W1.heap.size W1).alloc (Nat.le_refl _) _) (by omega)
  obtain ⟨W2, hW2⟩ : ∃ W2, W2 = W1.alloc (.cells (zeros 255 (.int .i64 0)) 3) := ⟨_, rfl⟩
  have hA2 : Arr W2 3 (w.heap.size + 1) (List.replicate 255 (.int .i64 0)) := by rw [hW2]; exact hA
  rw [← hW2] at hb2 hL3 ⊢
  obtain ⟨lb, hlb⟩ : ∃ lb, lb = w.heap.size := ⟨_, rfl⟩
  obtain ⟨ab, hab⟩ : ∃ ab, ab = w.heap.size + 1 := ⟨_, rfl⟩
  rw [← hab] at hA2 ⊢
  rw [← hlb] at hL3 ⊢
  have hne : lb ≠ ab := by omega
  have hne2 : ab ≠ lb := by omega
  have HL3 : Hid (Arr W2 3 lb (ints (RS.logs D 0))) := Lib.hid (by
    have e : ints (RS.logs D 0) = List.replicate 256 (.int .i64 0) := by unfold ints RS.logs; rw [List.map_replicate]; rfl
    rw [e]; exact hL3)
  have HA3 : Hid (Arr W2 3 ab (ints (rowF 255 (fun j => if j < 0 then ex D j else 0)))) := Lib.hid (by
    rw [rowF_congr (g := fun _ => 0) (fun j _ => by simp), ints_zeros]; exact hA2)
  have HLB := Lib.hid (And.intro hlb hab)
  have HB2 := Lib.hid hb2
  clear hL hb1 hW1 hL2 hs1 hA hb2 hL3 hW2 hA2 hlb hab hmk1 hmk2
  go_loopw [2, 3] (fun p i wr => ∃ k : Nat, k ≤ 255 ∧ i = .int .i64 k ∧ p = .int .i64 (ex D k : Nat) ∧ Hid (Arr wr 3 lb (ints (RS.logs D k))) ∧ Hid (Arr wr 3 ab (ints (rowF 255 (fun j => if j < k then ex D j else 0)))) ∧ Hid (Below w.heap.size w wr)) (fun _ i _ => 255 - (intOf i).toNat)
  case atStart => exact ⟨0, by omega, rfl, rfl, HL3, HA3, HB2⟩
  case round =>
    obtain ⟨k, hk, rfl, rfl, HL, HA, HB⟩ := hrel
    clear HL3 HA3 HB2
    obtain ⟨wi, hwi⟩ : ∃ wi, wi = wr := ⟨_, rfl⟩
    rw [← hwi] at HL HA HB ⊢
    clear hwi
    by_cases hlt : k < 255
    · have hki : (k : Int) < 255 := by omega
      have hk0 : (0 : Int) ≤ (k : Int) := by omega
      have hxl : ex D k < 256 := ex_lt D (by decide) k
      obtain ⟨x, hx⟩ : ∃ x, x = ex D k := ⟨_, rfl⟩
      have hst : ex D (k + 1) = RS.step D x := by rw [hx]; rfl
      rw [← hx] at hxl ⊢
      have hx0 : (0 : Int) ≤ (x : Int) := by omega
      have hx256 : (x : Int) < 256 := by omega
      have ca := HA.out.cell? k
      rw [ints_rowF hlt, if_neg (by omega)] at ca
      have fa := HA.out.free k
      have hA4 : Arr (wi.setCell ⟨ab, k, none⟩ (.int .i64 x)) 3 ab (ints (rowF 255 (fun j => if j < k + 1 then ex D j else 0))) := by
        rw [← ints_setF (f := fun j => if j < k then ex D j else 0) (g := fun j => if j < k + 1 then ex D j else 0) (i := k) (v := x) hlt (by rw [if_pos (by omega), hx]) (fun j _ hj => by
          by_cases h9 : j < k
          · rw [if_pos h9, if_pos (by omega)]
          · rw [if_neg h9, if_neg (by omega)])]
        exact HA.out.set_ k _
      have hL4 : Arr (wi.setCell ⟨ab, k, none⟩ (.int .i64 x)) 3 lb (ints (RS.logs D k)) := HL.out.mod (Mod.set1 wi ab k _) (fun h => hne h)
      have cl := hL4.cell? x
      have hll : (RS.logs D k).length = 256 := RS.logs_length D k
      rw [ints_atD (by omega)] at cl
      obtain ⟨old, hold⟩ : ∃ old, old = nth (RS.logs D k) x := ⟨_, rfl⟩
      rw [← hold] at cl
      have fl := hL4.free x
      have HL5 : Hid (Arr ((wi.setCell ⟨ab, k, none⟩ (.int .i64 x)).setCell ⟨lb, x, none⟩ (.int .i64 k)) 3 lb (ints (RS.logs D (k + 1)))) := Lib.hid (by
        have e : ints (RS.logs D (k + 1)) = (ints (RS.logs D k)).set x (.int .i64 (k : Nat)) := by
          show ints ((RS.logs D k).set (ex D k) k) = _
          rw [← hx]; unfold ints; rw [List.map_set]
        rw [e]; exact hL4.set_ x _)
      have HA5 : Hid (Arr ((wi.setCell ⟨ab, k, none⟩ (.int .i64 x)).setCell ⟨lb, x, none⟩ (.int .i64 k)) 3 ab (ints (rowF 255 (fun j => if j < k + 1 then ex D j else 0)))) := Lib.hid (hA4.mod (Mod.set1 _ lb x _) (fun h => hne2 h))
      have HB5 : Hid (Below w.heap.size w ((wi.setCell ⟨ab, k, none⟩ (.int .i64 x)).setCell ⟨lb, x, none⟩ (.int .i64 k))) := Lib.hid ((HB.out.setCell (p := ⟨ab, k, none⟩) (by have := HLB.out.2; show w.heap.size ≤ ab; omega) _).setCell (p := ⟨lb, x, none⟩) (by have := HLB.out.1; show w.heap.size ≤ lb; omega) _)
      obtain ⟨x2, hx2⟩ : ∃ x2, x2 = x * 2 := ⟨_, rfl⟩
      have hx2i : (x : Int) * 2 = (x2 : Int) := by omega
      have hx2b : x2 < 512 := by omega
      by_cases hbig : 256 ≤ x2
      · have hbig1 : (256 : Int) ≤ (x2 : Int) := by omega
        have hxor := i64_xor x2 301 (by omega) (by omega)
        have e9 : x2 ^^^ 301 = ex D (k + 1) := by rw [hst, step_hi hxl (by omega), hx2, Nat.mul_comm]
        rw [e9] at hxor
        obtain ⟨y, hy⟩ : ∃ y, y = ex D (k + 1) := ⟨_, rfl⟩
        rw [← hy] at hxor
        have HY := Lib.hid hy
        clear hst hx hold hA4 hL4 hll hx2 e9 hy HL HA HB
        go_wp2_with fail
        go_roundw
        case rel => exact ⟨k + 1, by omega, by go_num, by rw [← HY.out]; go_num, HL5, HA5, HB5⟩
        case measure => simp [intOf]; omega
      · have hbig1 : ((256 : Int) ≤ (x2 : Int)) = False := by simp; omega
        have e9 : x2 = ex D (k + 1) := by rw [hst, step_lo hxl (by omega), hx2, Nat.mul_comm]
        have HY := Lib.hid e9
        clear hst hx hold hA4 hL4 hll hx2 e9 HL HA HB
        go_wp2_with fail
        go_roundw
        case rel => exact ⟨k + 1, by omega, by go_num, by rw [← HY.out], HL5, HA5, HB5⟩
        case measure => simp [intOf]; omega
    · obtain rfl : k = 255 := by omega
      have HA6 : Hid (Arr wi 3 ab (ints (rowF 255 (ex D)))) := Lib.hid (by
        rw [rowF_congr (g := fun j => if j < 255 then ex D j else 0) (fun j hj => by rw [if_pos hj])]
        exact HA.out)
      clear HA
      go_wp2_with fail
      go_ret2
      exact ⟨lb, ab, rfl, HB.out, HL, HA6, by have := HLB.out.1; omega, by have := HLB.out.2; omega⟩
end Go.Proofs.Ytjpnkdpgdmmkkaa
