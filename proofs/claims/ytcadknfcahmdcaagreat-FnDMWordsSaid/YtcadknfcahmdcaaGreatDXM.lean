/-
  The setters of a context, walked. No condition beyond the bounds that each theorem states.
-/
import Derived.Test.YtcadknfcahmdcaaGreatDXL
namespace Go.Proofs.YtcadknfcahmdcaaGreat
open Go.RowKit Go.Qz Go.Qz.DF
open Go.Qz.DV hiding val run part
set_option linter.unusedVariables false

section
variable {w : World} {p : Nat} {msg : List Nat} {mb mc sh skip B : Nat} {ws : List Nat} {pos : Nat} {enc : Int} {sy : Option (Nat × Nat)} {v : Value}
theorem Ctx.setSh (h : Ctx w p ⟨msg, mb, mc, sh, skip, B⟩ ws pos enc sy v) (s : Nat) : Ctx (w.setCell ⟨p, 1, none⟩ (.int .i64 s)) p ⟨msg, mb, mc, s, skip, B⟩ ws pos enc sy v := by
  have hm := Mod.set1 w p 1 (.int .i64 s)
  exact ⟨h.ar.set_ 1 _, h.ms.mod hm (fun b hb e => by injection hb with hb; exact h.mp (hb.trans e)), h.cw.mod hm (fun b hb e => h.pv (by rw [hb, e])), h.mv, h.so.mod hm (fun q d e e2 => (h.syne e).1 e2), h.pb, by simpa [World.setCell] using h.bh⟩
theorem Ctx.setSkip (h : Ctx w p ⟨msg, mb, mc, sh, skip, B⟩ ws pos enc sy v) (s : Nat) : Ctx (w.setCell ⟨p, 8, none⟩ (.int .i64 s)) p ⟨msg, mb, mc, sh, s, B⟩ ws pos enc sy v := by
  have hm := Mod.set1 w p 8 (.int .i64 s)
  exact ⟨h.ar.set_ 8 _, h.ms.mod hm (fun b hb e => by injection hb with hb; exact h.mp (hb.trans e)), h.cw.mod hm (fun b hb e => h.pv (by rw [hb, e])), h.mv, h.so.mod hm (fun q d e e2 => (h.syne e).1 e2), h.pb, by simpa [World.setCell] using h.bh⟩
theorem Ctx.setMin {K : CK} (h : Ctx w p K ws pos enc sy v) : Ctx (w.setCell ⟨p, 2, none⟩ (.pointer none)) p K ws pos enc sy v := by
  have hm := Mod.set1 w p 2 (.pointer none)
  exact ⟨h.ar.set_ 2 _, h.ms.mod hm (fun b hb e => by injection hb with hb; exact h.mp (hb.trans e)), h.cw.mod hm (fun b hb e => h.pv (by rw [hb, e])), h.mv, h.so.mod hm (fun q d e e2 => (h.syne e).1 e2), h.pb, by simpa [World.setCell] using h.bh⟩
theorem Ctx.setMax {K : CK} (h : Ctx w p K ws pos enc sy v) : Ctx (w.setCell ⟨p, 3, none⟩ (.pointer none)) p K ws pos enc sy v := by
  have hm := Mod.set1 w p 3 (.pointer none)
  exact ⟨h.ar.set_ 3 _, h.ms.mod hm (fun b hb e => by injection hb with hb; exact h.mp (hb.trans e)), h.cw.mod hm (fun b hb e => h.pv (by rw [hb, e])), h.mv, h.so.mod hm (fun q d e e2 => (h.syne e).1 e2), h.pb, by simpa [World.setCell] using h.bh⟩
set_option maxRecDepth 100000 in
theorem setShape (h : Ctx w p ⟨msg, mb, mc, sh, skip, B⟩ ws pos enc sy v) (s : Nat) : Calls Tryz.prog 29 #[.pointer (some ⟨p, 0, none⟩), .int .i64 s] w (WPost p ⟨msg, mb, mc, s, skip, B⟩ ws pos enc sy v w) := by
  have HC' := Lib.hid (h.setSh s)
  have HST : Hid (Step p v v w (w.setCell ⟨p, 1, none⟩ (.int .i64 s))) := Lib.hid (Step.of_p (Mod.set1 w p 1 _))
  obtain ⟨c0, c1, c2, c3, c4, c5, c6, c7, c8⟩ := h.cells
  have f1 := h.ar.free 1
  clear h c0 c2 c3 c4 c5 c6 c7 c8
  go_enter Tryz.func29, Tryz.ntmps29
  go_wp2_with fail
  exact bodyPost_ret (v := .tuple #[]) (by simp [results, Tryz.results29, go_sem]) rfl ⟨v, rfl, HC', HST⟩
set_option maxRecDepth 100000 in
theorem setSkip (h : Ctx w p ⟨msg, mb, mc, sh, skip, B⟩ ws pos enc sy v) (s : Nat) : Calls Tryz.prog 34 #[.pointer (some ⟨p, 0, none⟩), .int .i64 s] w (WPost p ⟨msg, mb, mc, sh, s, B⟩ ws pos enc sy v w) := by
  have HC' := Lib.hid (h.setSkip s)
  have HST : Hid (Step p v v w (w.setCell ⟨p, 8, none⟩ (.int .i64 s))) := Lib.hid (Step.of_p (Mod.set1 w p 8 _))
  obtain ⟨c0, c1, c2, c3, c4, c5, c6, c7, c8⟩ := h.cells
  have f8 := h.ar.free 8
  clear h c0 c1 c2 c3 c4 c5 c6 c7
  go_enter Tryz.func34, Tryz.ntmps34
  go_wp2_with fail
  exact bodyPost_ret (v := .tuple #[]) (by simp [results, Tryz.results34, go_sem]) rfl ⟨v, rfl, HC', HST⟩
set_option maxRecDepth 100000 in
theorem setSizes {K : CK} (h : Ctx w p K ws pos enc sy v) : Calls Tryz.prog 30 #[.pointer (some ⟨p, 0, none⟩), .pointer none, .pointer none] w (WPost p K ws pos enc sy v w) := by
  have HC' := Lib.hid (h.setMin.setMax)
  have HST : Hid (Step p v v w ((w.setCell ⟨p, 2, none⟩ (.pointer none)).setCell ⟨p, 3, none⟩ (.pointer none))) := Lib.hid ((Step.of_p (Mod.set1 w p 2 _)).trans (Step.of_p (Mod.set1 _ p 3 _)))
  obtain ⟨c0, c1, c2, c3, c4, c5, c6, c7, c8⟩ := h.cells
  have f2 := h.ar.free 2
  have c3' := h.setMin.ar.cell? 3
  have f3' := h.setMin.ar.free 3
  obtain ⟨w2, hw2⟩ : ∃ w2, w2 = w.setCell ⟨p, 2, none⟩ (.pointer none) := ⟨_, rfl⟩
  rw [← hw2] at c3' f3' HC' HST
  simp only [List.getElem?_cons_zero, List.getElem?_cons_succ] at c3'
  have HW2 := Lib.hid hw2
  clear h c0 c1 c3 c4 c5 c6 c7 c8 hw2
  go_enter Tryz.func30, Tryz.ntmps30
  go_upto_region 1 with (fail)
  rw [← HW2.out]
  go_wp2_with fail
  exact bodyPost_ret (v := .tuple #[]) (by simp [results, Tryz.results30, go_sem]) rfl ⟨v, rfl, HC', HST⟩
end
end Go.Proofs.YtcadknfcahmdcaaGreat
