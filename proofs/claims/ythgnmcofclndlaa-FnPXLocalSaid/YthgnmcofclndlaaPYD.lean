/-
  The binarizer by one bound: NewGlobalHistgramBinarizer, initArrays, walked. No condition beyond the bounds that each theorem states.
-/
import Derived.Test.YthgnmcofclndlaaPYC
import Derived.Test.YthgnmcofclndlaaPYP
import Derived.Test.YthgnmcofclndlaaPXB
import Derived.Test.YthgnmcofclndlaaRDO
namespace Go.Proofs.Ythgnmcofclndlaa
open Go.RowKit Go.Qz
set_option linter.unusedVariables false

theorem Try.infoIntG : (Try.prog.info? 3).map (fun i => (i.zero, i.size, i.bytes)) = some (some (.int .i64 0), 1, 8) := by kernel_rfl
def cntV (b : Nat → Nat) : List Value := rowV (fun j => .int .i64 (b j : Nat)) 32
/-- A binarizer by one bound, in memory. -/
structure GH (w : World) (g p bk : Nat) (L : Value) (b : Nat → Nat) : Prop where
  hg : Arr w 81 g [.iface 72 (.pointer (some ⟨p, 0, none⟩)), L, .slice (some ⟨bk, 0, none⟩) 32 32]
  hb : Arr w 3 bk (cntV b)
  ne : g ≠ bk
theorem GH.below {w w' : World} {g p bk : Nat} {L : Value} {b : Nat → Nat} (h : GH w g p bk L b) (hb : Below w.heap.size w w') : GH w' g p bk L b := ⟨h.hg.below hb h.hg.lt, h.hb.below hb h.hb.lt, h.ne⟩
theorem GH.c0 {w : World} {g p bk : Nat} {L : Value} {b : Nat → Nat} (h : GH w g p bk L b) : w.cell? ⟨g, 0, none⟩ = some (.iface 72 (.pointer (some ⟨p, 0, none⟩))) := h.hg.cell? 0
theorem GH.c1 {w : World} {g p bk : Nat} {L : Value} {b : Nat → Nat} (h : GH w g p bk L b) : w.cell? ⟨g, 1, none⟩ = some L := h.hg.cell? 1
theorem GH.c2 {w : World} {g p bk : Nat} {L : Value} {b : Nat → Nat} (h : GH w g p bk L b) : w.cell? ⟨g, 2, none⟩ = some (.slice (some ⟨bk, 0, none⟩) 32 32) := h.hg.cell? 2
theorem cntV_zero : cntV (fun _ => 0) = List.replicate 32 (.int .i64 0) := rowV_const _ _
def NewPost (p : Nat) (w : World) (e : Ending) (w' : World) : Prop := ∃ g bk e0, e = .returned (.iface 78 (.pointer (some ⟨g, 0, none⟩))) ∧ Hid (GH w' g p bk (.slice (some ⟨e0, 0, none⟩) 0 0) (fun _ => 0)) ∧ w.heap.size ≤ g ∧ w.heap.size ≤ bk ∧ Below w.heap.size w w'
set_option maxRecDepth 100000 in
set_option maxHeartbeats 1600000 in
theorem ghNew (w : World) (p : Nat) : Calls Try.prog 29 #[.iface 72 (.pointer (some ⟨p, 0, none⟩))] w (NewPost p w) := by
  have hmk := fun X => run_make1 (P := Try.prog) 79 3 (.int .i64 0) 8 Try.underlying79 Try.infoIntG rfl (by decide) 32 (by omega) .i64 .i64 32 rfl X
  have hb1 : Below w.heap.size w (w.alloc (.cells #[] 5)) := (Below.refl _ _).alloc (Nat.le_refl _) _
  have hb2 := hb1.alloc (by simp) (.cells (zeros 32 (.int .i64 0)) 3)
  have ha2 := Arr.new (w.alloc (.cells #[] 5)) 3 (List.replicate 32 (.int .i64 0))
  have hb3 := hb2.alloc (by simp; omega) (.cells #[.iface 72 (.pointer (some ⟨p, 0, none⟩)), .slice (some ⟨w.heap.size, 0, none⟩) 0 0, .slice (some ⟨w.heap.size + 1, 0, none⟩) 32 32] 81)
  have ha3 := Arr.new ((w.alloc (.cells #[] 5)).alloc (.cells (zeros 32 (.int .i64 0)) 3)) 81 [.iface 72 (.pointer (some ⟨p, 0, none⟩)), .slice (some ⟨w.heap.size, 0, none⟩) 0 0, .slice (some ⟨w.heap.size + 1, 0, none⟩) 32 32]
  have ha2' := ha2.below ((Below.refl _ _).alloc (Nat.le_refl _) (.cells #[.iface 72 (.pointer (some ⟨p, 0, none⟩)), .slice (some ⟨w.heap.size, 0, none⟩) 0 0, .slice (some ⟨w.heap.size + 1, 0, none⟩) 32 32] 81)) ha2.lt
  rw [show (w.alloc (.cells #[] 5)).heap.size = w.heap.size + 1 from by simp, ← cntV_zero] at ha2'
  rw [show ((w.alloc (.cells #[] 5)).alloc (.cells (zeros 32 (.int .i64 0)) 3)).heap.size = w.heap.size + 1 + 1 from by simp] at ha3
  have HP : Hid (NewPost p w (.returned (.iface 78 (.pointer (some ⟨w.heap.size + 1 + 1, 0, none⟩)))) (((w.alloc (.cells #[] 5)).alloc (.cells (zeros 32 (.int .i64 0)) 3)).alloc (.cells #[.iface 72 (.pointer (some ⟨p, 0, none⟩)), .slice (some ⟨w.heap.size, 0, none⟩) 0 0, .slice (some ⟨w.heap.size + 1, 0, none⟩) 32 32] 81))) := Lib.hid ⟨_, w.heap.size + 1, w.heap.size, rfl, Lib.hid ⟨ha3, ha2', by omega⟩, by omega, by omega, hb3⟩
  clear hb1 hb2 ha2 hb3 ha3 ha2'
  go_enter Try.func29, Try.ntmps29
  go_wp2_with fail
  go_ret
  exact HP.out

/-- The blocks that a binarizer has. -/
def GB (g bk k : Nat) : Prop := k = g ∨ k = bk
def InitPost (g p bk W : Nat) (w : World) (e : Ending) (w' : World) : Prop := e = .returned (.tuple #[]) ∧ ∃ R, Hid (GH w' g p bk (.slice (some ⟨R, 0, none⟩) W W) (fun _ => 0)) ∧ Hid (Arr w' 5 R (List.replicate W (.int .u8 0))) ∧ w.heap.size ≤ R ∧ Hid (Mod (GB g bk) w w')
set_option maxRecDepth 100000 in
set_option maxHeartbeats 3200000 in
theorem ghInit (g p bk e0 W : Nat) (hW1 : 1 ≤ W) (hW : W ≤ 1000) (b : Nat → Nat) (w : World) (h : GH w g p bk (.slice (some ⟨e0, 0, none⟩) 0 0) b) :
    Calls Try.prog 74 #[.pointer (some ⟨g, 0, none⟩), .int .i64 W] w (InitPost g p bk W w) := by
  have c1 := h.c1
  have f1 := h.hg.free 1
  have hmk := fun X => run_make1 (P := Try.prog) 22 5 (.int .u8 0) 1 Try.underlying22 Try.infoByte rfl (by decide) W (by omega) .i64 .i64 W rfl X
  obtain ⟨R, hR⟩ : ∃ R, R = w.heap.size := ⟨_, rfl⟩
  obtain ⟨W1, hW1'⟩ : ∃ W1, W1 = w.alloc (.cells (zeros W (.int .u8 0)) 5) := ⟨_, rfl⟩
  have hb1 : Below w.heap.size w W1 := by rw [hW1']; exact (Below.refl _ _).alloc (Nat.le_refl _) _
  have hAR : Arr W1 5 R (List.replicate W (.int .u8 0)) := by rw [hW1', hR]; exact Arr.new w _ _
  have h1 := h.below hb1
  obtain ⟨W2, hW2⟩ : ∃ W2, W2 = W1.setCell ⟨g, 1, none⟩ (.slice (some ⟨R, 0, none⟩) W W) := ⟨_, rfl⟩
  have hm2 : Mod (· = g) W1 W2 := by rw [hW2]; exact Mod.set1 W1 g 1 _
  have hgl := h.hg.lt
  have hbl := h.hb.lt
  have H2 : Hid (GH W2 g p bk (.slice (some ⟨R, 0, none⟩) W W) b) := Lib.hid ⟨by rw [hW2]; exact h1.hg.set_ 1 _, h1.hb.mod hm2 (fun e => h.ne e.symm), h.ne⟩
  have HAR : Hid (Arr W2 5 R (List.replicate W (.int .u8 0))) := Lib.hid (hAR.mod hm2 (by omega))
  have HM2 : Hid (Mod (GB g bk) w W2) := Lib.hid ((Mod.of_below hb1).trans (hm2.mono (fun k _ hk => .inl hk)))
  have c1' := (hb1.cell (p := ⟨g, 1, none⟩) hgl).trans c1
  have f1' := h1.hg.free 1
  rw [hW1'] at c1' f1'
  rw [hW1'] at hW2
  have HR := Lib.hid hR
  have HW2 := Lib.hid hW2
  have HNE : Hid (¬ GB g bk R) := Lib.hid (by rintro (e | e) <;> omega)
  clear h h1 hb1 hAR hm2 hW1' hW2 hgl hbl
  go_enter Try.func74, Try.ntmps74
  go_wp2_with fail
  rw [← hR, ← HW2.out]
  clear hR c1 f1 c1' f1'
  go_loopw [4] (fun i wr => ∃ (k : Nat) (b' : Nat → Nat), k ≤ 32 ∧ i = .int .i64 k ∧ Hid (GH wr g p bk (.slice (some ⟨R, 0, none⟩) W W) b') ∧ Hid (∀ j, j < k → b' j = 0) ∧ Hid (Mod (GB g bk) W2 wr)) (fun i _ => 32 - (intOf i).toNat)
  case atStart => exact ⟨0, b, by omega, rfl, H2, Lib.hid (fun j hj => by omega), Lib.hid (Mod.refl _)⟩
  case round =>
    obtain ⟨wo, hwo⟩ : ∃ wo, wo = wr := ⟨_, rfl⟩
    rw [← hwo] at hrel ⊢
    clear hwo
    obtain ⟨k, b', hk, rfl, HG, HZ, HM⟩ := hrel
    by_cases hlt : k < 32
    · have hk0 : (0 : Int) ≤ (k : Int) := by omega
      have hk1 : (k : Int) < 32 := by omega
      have c2 := HG.out.c2
      have ck := HG.out.hb.cell? k
      unfold cntV at ck
      rw [rowV_get _ _ _ hlt] at ck
      have fk := HG.out.hb.free k
      have hm := Mod.set1 wo bk k (.int .i64 0)
      have HG2 : Hid (GH (wo.setCell ⟨bk, k, none⟩ (.int .i64 0)) g p bk (.slice (some ⟨R, 0, none⟩) W W) (fun j => if j = k then 0 else b' j)) := Lib.hid ⟨HG.out.hg.mod hm HG.out.ne, by
        have := HG.out.hb.set_ k (.int .i64 0)
        unfold cntV at this ⊢
        rw [rowV_set (g := fun j => .int .i64 ((if j = k then 0 else b' j : Nat) : Int)) (fun j hj => by by_cases e : j = k <;> simp [e])] at this
        exact this, HG.out.ne⟩
      have HZ2 : Hid (∀ j, j < k + 1 → (if j = k then 0 else b' j) = 0) := Lib.hid (fun j hj => by
        by_cases e : j = k
        · rw [if_pos e]
        · rw [if_neg e]; exact HZ.out j (by omega))
      have HM3 : Hid (Mod (GB g bk) W2 (wo.setCell ⟨bk, k, none⟩ (.int .i64 0))) := Lib.hid (HM.out.trans (hm.mono (fun k _ hk => .inr hk)))
      clear HG HZ HM hm
      go_wp2_with fail
      go_roundw
      case rel => exact ⟨k + 1, _, by omega, by go_num, HG2, HZ2, HM3⟩
      case measure => simp [intOf]; omega
    · obtain rfl : k = 32 := by omega
      have HG3 : Hid (GH wo g p bk (.slice (some ⟨R, 0, none⟩) W W) (fun _ => 0)) := Lib.hid ⟨HG.out.hg, by
        have := HG.out.hb
        unfold cntV at this ⊢
        rw [rowV_congr (g := fun j => .int .i64 ((0 : Nat) : Int)) (fun j hj => by rw [HZ.out j hj])] at this
        exact this, HG.out.ne⟩
      have HA3 : Hid (Arr wo 5 R (List.replicate W (.int .u8 0))) := Lib.hid (HAR.out.mod HM.out HNE.out)
      have HM3 : Hid (Mod (GB g bk) w wo) := Lib.hid (HM2.out.trans HM.out)
      go_wp2_with fail
      go_end0
      exact ⟨rfl, R, HG3, HA3, by rw [HR.out]; exact Nat.le_refl _, HM3⟩
end Go.Proofs.Ythgnmcofclndlaa
