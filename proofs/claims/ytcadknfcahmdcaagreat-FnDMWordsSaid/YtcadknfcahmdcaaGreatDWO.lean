/-
  The encoder's context in memory, and its methods, walked. No condition beyond the bounds that each theorem states.
-/
import Derived.Test.YtcadknfcahmdcaaGreatDWT
import Derived.Test.YtcadknfcahmdcaaGreatOFL
import Derived.Test.YtcadknfcahmdcaaGreatNF
import Derived.BigQuiet
import Derived.StillTailTactics
namespace Go.Proofs.YtcadknfcahmdcaaGreat
open Go.RowKit Go.Qz
set_option linter.unusedVariables false

theorem Tryz.infoBy : (Tryz.prog.info? 5).map (fun i => (i.zero, i.size, i.bytes)) = some (some (.int .u8 0), 1, 1) := by kernel_rfl
/-- Bytes as values. -/
def bys (l : List Nat) : List Value := l.map fun x : Nat => Value.int .u8 x
theorem bys_append (a b : List Nat) : bys (a ++ b) = bys a ++ bys b := by simp [bys]
theorem bys_len (l : List Nat) : (bys l).length = l.length := by simp [bys]
theorem bys_at {l : List Nat} {j : Nat} (h : j < l.length) : (bys l)[j]? = some (.int .u8 (nth l j : Nat)) := by simp [bys, h, nth_eq h]
theorem bys_drop (l : List Nat) (k : Nat) : (bys l).drop k = bys (l.drop k) := by simp [bys]
theorem bys_take (l : List Nat) (k : Nat) : (bys l).take k = bys (l.take k) := by simp [bys]
theorem bys_one (l : List Nat) : ∀ u ∈ bys l, u.oneCell' = true := by
  intro u hu
  obtain ⟨x, _, rfl⟩ := List.mem_map.1 hu
  rfl
/-- What stays of a context: the message, where it lies; the shape; how many bytes are left at the end; the least block of the call's own. -/
structure CK where
  msg : List Nat
  mb : Nat
  mc : Nat
  sh : Nat
  skip : Nat
  B : Nat
def symV : Option (Nat × Nat) → Value
  | none => .pointer none
  | some (q, _) => .pointer (some ⟨q, 0, none⟩)
def SymOk (w : World) : Option (Nat × Nat) → Prop
  | none => True
  | some (q, d) => ∃ r e x y, SymA w q r d e x y
/-- A context in memory: words so far, place, signal, symbol (block, capacity). -/
structure Ctx (w : World) (p : Nat) (K : CK) (ws : List Nat) (pos : Nat) (enc : Int) (sy : Option (Nat × Nat)) (v : Value) : Prop where
  ar : Arr w 66 p [.slice (some ⟨K.mb, 0, none⟩) K.msg.length K.mc, .int .i64 K.sh, .pointer none, .pointer none, v, .int .i64 pos, .int .i64 enc, symV sy, .int .i64 K.skip]
  ms : Off w 0 5 (.slice (some ⟨K.mb, 0, none⟩) K.msg.length K.mc) K.msg.length (bys K.msg)
  cw : Off w K.B 5 v ws.length (bys ws)
  mv : v.ownBlock ≠ some K.mb
  so : SymOk w sy
  pb : K.B ≤ p
  bh : K.B ≤ w.heap.size
/-- From w to w' the context's own blocks alone are written; where its words lie. -/
def Step (p : Nat) (v v' : Value) (w w' : World) : Prop := Mod (fun b => b = p ∨ v.ownBlock = some b) w w' ∧ (v'.ownBlock = v.ownBlock ∨ ∃ b, v'.ownBlock = some b ∧ w.heap.size ≤ b)
/-- Nothing is written. -/
def Same (w w' : World) : Prop := Mod (fun _ => False) w w'
theorem Same.refl (w : World) : Same w w := Mod.refl _
theorem Same.drewN (w : World) (n : Nat) : Same w (w.drewN n) := Mod.drewN (Mod.refl _) n
theorem Same.below {w w' : World} (h : Same w w') : Below w.heap.size w w' := Mod.below (S := fun _ => False) h (Nat.le_refl _) (fun _ h => h.elim)
theorem Same.of_below {w w' : World} (h : Below w.heap.size w w') : Same w w' := Mod.of_below h
theorem Step.of_same {p : Nat} {v : Value} {w w' : World} (h : Same w w') : Step p v v w w' := ⟨Mod.mono (S := fun _ => False) h fun _ _ h => h.elim, .inl rfl⟩
theorem Step.of_p {p : Nat} {v : Value} {w w' : World} (h : Mod (· = p) w w') : Step p v v w w' := ⟨h.mono fun _ _ h => .inl h, .inl rfl⟩
theorem Step.refl (p : Nat) (v : Value) (w : World) : Step p v v w w := Step.of_same (Same.refl w)
theorem Step.trans {p : Nat} {v v' v'' : Value} {w w' w'' : World} (h : Step p v v' w w') (k : Step p v' v'' w' w'') : Step p v v'' w w'' := by
  refine ⟨h.1.then k.1 fun i hi hh => ?_, ?_⟩
  · rcases hh with e | e
    · exact .inl e
    · rcases h.2 with h2 | ⟨b, h2, h3⟩
      · exact .inr (h2 ▸ e)
      · rw [h2] at e; injection e with e; omega
  · rcases k.2 with k2 | ⟨b, k2, k3⟩
    · rw [k2]; exact h.2
    · exact .inr ⟨b, k2, Nat.le_trans h.1.size k3⟩
/-- Blocks of different types are different. -/
theorem arr_ne {w : World} {t t' : TypeId} {a b : Nat} {vs vs' : List Value} (h : Arr w t a vs) (h' : Arr w t' b vs') (hne : t ≠ t') : a ≠ b := by
  rintro rfl
  unfold Arr at h h'
  rw [h] at h'
  injection h' with h'
  injection h' with _ h2
  exact hne h2
theorem off_ne {w : World} {base : Nat} {e t' : TypeId} {v : Value} {n b : Nat} {xs vs' : List Value} (h : Off w base e v n xs) (h' : Arr w t' b vs') (hne : e ≠ t') : v.ownBlock ≠ some b := by
  obtain ⟨g, off, cap, rfl, hob, _, _, cur, hh⟩ := h.block
  intro he
  rw [hob] at he
  injection he with he
  subst he
  unfold Arr at h'
  rw [hh] at h'
  injection h' with h'
  injection h' with _ h2
  exact hne h2
section
variable {w w' : World} {p : Nat} {K : CK} {ws : List Nat} {pos : Nat} {enc : Int} {sy : Option (Nat × Nat)} {v : Value}
theorem Ctx.pv (h : Ctx w p K ws pos enc sy v) : v.ownBlock ≠ some p := off_ne h.cw h.ar (by decide)
theorem Ctx.mp (h : Ctx w p K ws pos enc sy v) : K.mb ≠ p := fun e => off_ne h.ms h.ar (by decide) (by rw [← e]; rfl)
theorem Ctx.plt (h : Ctx w p K ws pos enc sy v) : p < w.heap.size := h.ar.lt
theorem Ctx.syne (h : Ctx w p K ws pos enc sy v) {q d : Nat} (e : sy = some (q, d)) : q ≠ p ∧ v.ownBlock ≠ some q ∧ K.mb ≠ q := by
  have := h.so
  subst e
  obtain ⟨r, x, y, z, a, b, c, hA⟩ := this
  exact ⟨arr_ne hA h.ar (by decide), off_ne h.cw hA (by decide), fun e => off_ne h.ms hA (by decide) (by rw [← e]; rfl)⟩
theorem SymOk.mod {S : Nat → Prop} (h : SymOk w sy) (hm : Mod S w w') (hs : ∀ q d, sy = some (q, d) → ¬ S q) : SymOk w' sy := by
  rcases sy with _ | ⟨q, d⟩
  · trivial
  · obtain ⟨r, x, y, z, hA⟩ := h
    exact ⟨r, x, y, z, hA.mod hm (hs q d rfl)⟩
/-- A context stays where none of its blocks is written. -/
theorem Ctx.keep {S : Nat → Prop} (h : Ctx w p K ws pos enc sy v) (hm : Mod S w w') (h1 : ¬ S p) (h2 : ¬ S K.mb) (h3 : ∀ b, v.ownBlock = some b → ¬ S b) (h4 : ∀ q d, sy = some (q, d) → ¬ S q) : Ctx w' p K ws pos enc sy v :=
  ⟨h.ar.mod hm h1, h.ms.mod hm (fun b hb => by injection hb with hb; subst hb; exact h2), h.cw.mod hm h3, h.mv, h.so.mod hm h4, h.pb, Nat.le_trans h.bh hm.size⟩
theorem Ctx.same (h : Ctx w p K ws pos enc sy v) (hm : Same w w') : Ctx w' p K ws pos enc sy v := h.keep hm (fun h => h) (fun h => h) (fun _ _ h => h) (fun _ _ _ h => h)
/-- A row of bytes elsewhere is written: the context stays. -/
theorem Ctx.grew (h : Ctx w p K ws pos enc sy v) {base n : Nat} {u u' : Value} {xs : List Value} (ho : Off w base 5 u n xs) (hg : Grew w w' u u') (h2 : u.ownBlock ≠ some K.mb) (h3 : u.ownBlock ≠ v.ownBlock) : Ctx w' p K ws pos enc sy v := by
  obtain ⟨g, off, cap, rfl, hob, _⟩ := ho.block
  refine h.keep hg.1 (fun e => off_ne ho h.ar (by decide) e) h2 (fun b hb e => h3 (e.trans hb.symm)) (fun q d e hq => ?_)
  have := h.so
  subst e
  obtain ⟨r, x, y, z, a, b, c, hA⟩ := this
  exact off_ne ho hA (by decide) hq
theorem Ctx.cells (h : Ctx w p K ws pos enc sy v) : w.cell? ⟨p, 0, none⟩ = some (.slice (some ⟨K.mb, 0, none⟩) K.msg.length K.mc) ∧ w.cell? ⟨p, 1, none⟩ = some (.int .i64 K.sh) ∧ w.cell? ⟨p, 2, none⟩ = some (.pointer none) ∧ w.cell? ⟨p, 3, none⟩ = some (.pointer none) ∧ w.cell? ⟨p, 4, none⟩ = some v ∧ w.cell? ⟨p, 5, none⟩ = some (.int .i64 pos) ∧ w.cell? ⟨p, 6, none⟩ = some (.int .i64 enc) ∧ w.cell? ⟨p, 7, none⟩ = some (symV sy) ∧ w.cell? ⟨p, 8, none⟩ = some (.int .i64 K.skip) :=
  ⟨h.ar.cell? 0, h.ar.cell? 1, h.ar.cell? 2, h.ar.cell? 3, h.ar.cell? 4, h.ar.cell? 5, h.ar.cell? 6, h.ar.cell? 7, h.ar.cell? 8⟩
/-- The place, the signal, the symbol is set. -/
theorem Ctx.setPos (h : Ctx w p K ws pos enc sy v) (pos' : Nat) : Ctx (w.setCell ⟨p, 5, none⟩ (.int .i64 pos')) p K ws pos' enc sy v := by
  have hm := Mod.set1 w p 5 (.int .i64 pos')
  exact ⟨h.ar.set_ 5 _, h.ms.mod hm (fun b hb e => by injection hb with hb; exact h.mp (hb.trans e)), h.cw.mod hm (fun b hb e => h.pv (by rw [hb, e])), h.mv, h.so.mod hm (fun q d e e2 => (h.syne e).1 e2), h.pb, by simpa [World.setCell] using h.bh⟩
theorem Ctx.setEnc (h : Ctx w p K ws pos enc sy v) (enc' : Int) : Ctx (w.setCell ⟨p, 6, none⟩ (.int .i64 enc')) p K ws pos enc' sy v := by
  have hm := Mod.set1 w p 6 (.int .i64 enc')
  exact ⟨h.ar.set_ 6 _, h.ms.mod hm (fun b hb e => by injection hb with hb; exact h.mp (hb.trans e)), h.cw.mod hm (fun b hb e => h.pv (by rw [hb, e])), h.mv, h.so.mod hm (fun q d e e2 => (h.syne e).1 e2), h.pb, by simpa [World.setCell] using h.bh⟩
theorem Ctx.setSym (h : Ctx w p K ws pos enc sy v) (sy' : Option (Nat × Nat)) (hs : SymOk w sy') : Ctx (w.setCell ⟨p, 7, none⟩ (symV sy')) p K ws pos enc sy' v := by
  have hm := Mod.set1 w p 7 (symV sy')
  refine ⟨h.ar.set_ 7 _, h.ms.mod hm (fun b hb e => by injection hb with hb; exact h.mp (hb.trans e)), h.cw.mod hm (fun b hb e => h.pv (by rw [hb, e])), h.mv, hs.mod hm (fun q d e e2 => ?_), h.pb, by simpa [World.setCell] using h.bh⟩
  subst e
  obtain ⟨r, x, y, z, a, b, c, hA⟩ := hs
  exact arr_ne hA h.ar (by decide) e2
/-- The words have grown. -/
theorem Ctx.grow (h : Ctx w p K ws pos enc sy v) {v' : Value} {ws' : List Nat} (hg : Grew w w' v v') (ho : Off w' K.B 5 v' ws'.length (bys ws')) : Ctx (w'.setCell ⟨p, 4, none⟩ v') p K ws' pos enc sy v' ∧ Step p v v' w (w'.setCell ⟨p, 4, none⟩ v') ∧ w'.cell? ⟨p, 4, none⟩ = some v ∧ w'.frozen? ⟨p, 4, none⟩ = false := by
  have hA := h.ar.mod hg.1 (fun e => h.pv e)
  have hm := Mod.set1 w' p 4 v'
  have hms := h.ms.mod hg.1 (fun b hb e => by injection hb with hb; subst hb; exact h.mv e)
  have hso := h.so.mod hg.1 (fun q d e e2 => (h.syne e).2.1 e2)
  have hmv : v'.ownBlock ≠ some K.mb := by
    rcases hg.2 with e | ⟨b, e, hb⟩
    · rw [e]; exact h.mv
    · rw [e]; intro e2
      injection e2 with e2
      obtain ⟨g, off, cap, e3, _, hlt, _⟩ := h.ms.block
      injection e3 with e3
      injection e3 with e3
      injection e3 with e3
      omega
  refine ⟨⟨hA.set_ 4 v', hms.mod hm (fun b hb e => by injection hb with hb; exact h.mp (hb.trans e)), ho.mod hm (fun b hb e => off_ne ho hA (by decide) (by rw [hb, e])), hmv, hso.mod hm (fun q d e e2 => (h.syne e).1 e2), h.pb, ?_⟩, ⟨(hg.1.mono fun _ _ e => .inr e).trans (hm.mono fun _ _ e => .inl e), hg.2⟩, hA.cell? 4, hA.free 4⟩
  have := hg.1.size
  have := h.bh
  simp only [World.setCell, Array.size_modify]
  omega
end
section
variable {p : Nat} {K : CK} {ws : List Nat} {pos : Nat} {enc : Int} {sy : Option (Nat × Nat)} {v : Value}
set_option maxRecDepth 100000 in
theorem getMessage (w : World) (h : Ctx w p K ws pos enc sy v) : Calls Tryz.prog 102 #[.pointer (some ⟨p, 0, none⟩)] w fun e w' => e = .returned (.slice (some ⟨K.mb, 0, none⟩) K.msg.length K.mc) ∧ w = w' := by
  obtain ⟨c0, c1, c2, c3, c4, c5, c6, c7, c8⟩ := h.cells
  clear h
  go_enter Tryz.func102, Tryz.ntmps102
  go_wp2_with fail
  go_ret
  exact ⟨rfl, rfl⟩
set_option maxRecDepth 100000 in
theorem getNewEnc (w : World) (h : Ctx w p K ws pos enc sy v) : Calls Tryz.prog 36 #[.pointer (some ⟨p, 0, none⟩)] w fun e w' => e = .returned (.int .i64 enc) ∧ w = w' := by
  obtain ⟨c0, c1, c2, c3, c4, c5, c6, c7, c8⟩ := h.cells
  clear h
  go_enter Tryz.func36, Tryz.ntmps36
  go_wp2_with fail
  go_ret
  exact ⟨rfl, rfl⟩
set_option maxRecDepth 100000 in
theorem getCount (w : World) (h : Ctx w p K ws pos enc sy v) : Calls Tryz.prog 38 #[.pointer (some ⟨p, 0, none⟩)] w fun e w' => e = .returned (.int .i64 ws.length) ∧ w = w' := by
  obtain ⟨g, off, cap, rfl, _⟩ := h.cw.block
  obtain ⟨c0, c1, c2, c3, c4, c5, c6, c7, c8⟩ := h.cells
  clear h
  go_enter Tryz.func38, Tryz.ntmps38
  go_wp2_with fail
  go_ret
  exact ⟨rfl, rfl⟩
set_option maxRecDepth 100000 in
theorem getWords (w : World) (h : Ctx w p K ws pos enc sy v) : Calls Tryz.prog 43 #[.pointer (some ⟨p, 0, none⟩)] w fun e w' => e = .returned v ∧ w = w' := by
  obtain ⟨g, off, cap, rfl, _⟩ := h.cw.block
  obtain ⟨c0, c1, c2, c3, c4, c5, c6, c7, c8⟩ := h.cells
  clear h
  go_enter Tryz.func43, Tryz.ntmps43
  go_wp2_with fail
  go_ret
  exact ⟨rfl, rfl⟩
set_option maxRecDepth 100000 in
theorem getSym (w : World) (q d : Nat) (h : Ctx w p K ws pos enc (some (q, d)) v) : Calls Tryz.prog 41 #[.pointer (some ⟨p, 0, none⟩)] w fun e w' => e = .returned (.pointer (some ⟨q, 0, none⟩)) ∧ w = w' := by
  obtain ⟨c0, c1, c2, c3, c4, c5, c6, c7, c8⟩ := h.cells
  unfold symV at c7
  clear h
  go_enter Tryz.func41, Tryz.ntmps41
  go_wp2_with fail
  go_ret
  exact ⟨rfl, rfl⟩
theorem getCap (w : World) (q d : Nat) (h : Ctx w p K ws pos enc (some (q, d)) v) : Calls Tryz.prog 42 #[.pointer (some ⟨q, 0, none⟩)] w fun en w' => en = .returned (.int .i64 d) ∧ w = w' := by
  obtain ⟨r, e, x, y, hA⟩ := h.so
  exact symCap w q r d e x y hA
/-- A value; nothing is written. -/
def QPost (u : Value) (w : World) (e : Ending) (w' : World) : Prop := e = .returned u ∧ ∃ m, w' = w.drewN m
theorem QPost.same {u : Value} {w : World} {e : Ending} {w' : World} (h : QPost u w e w') : e = .returned u ∧ Hid (Same w w') := by
  obtain ⟨h1, m, rfl⟩ := h
  exact ⟨h1, Lib.hid (Same.drewN w m)⟩
set_option maxRecDepth 100000 in
theorem getCur (w : World) (h : Ctx w p K ws pos enc sy v) (hp : pos < K.msg.length) (hb : pos < 100000) : Calls Tryz.prog 104 #[.pointer (some ⟨p, 0, none⟩)] w (QPost (.int .u8 (nth K.msg pos : Nat)) w) := by
  obtain ⟨c0, c1, c2, c3, c4, c5, c6, c7, c8⟩ := h.cells
  have cm := h.ms.cells pos _ (bys_at hp)
  rw [Nat.zero_add] at cm
  have hp0 : (0 : Int) ≤ (pos : Int) := by omega
  have hp1 : (pos : Int) < (K.msg.length : Int) := by omega
  obtain ⟨mb, hmb⟩ : ∃ mb, mb = K.mb := ⟨_, rfl⟩
  obtain ⟨L, hL⟩ : ∃ L, L = K.msg.length := ⟨_, rfl⟩
  obtain ⟨c, hc⟩ : ∃ c, c = nth K.msg pos := ⟨_, rfl⟩
  rw [← hmb, ← hL] at c0
  rw [← hmb, ← hc] at cm
  rw [← hL] at hp hp1
  rw [← hc]
  clear h c1 c2 c3 c4 c6 c7 c8 hmb hL hc
  go_enter Tryz.func104, Tryz.ntmps104
  go_wp2_with fail
  go_quiet (fail)
  go_wp2_with fail
  go_ret
  exact ⟨rfl, _, rfl⟩
set_option maxRecDepth 100000 in
theorem getTotal (w : World) (h : Ctx w p K ws pos enc sy v) (T : Nat) (hT : T + K.skip = K.msg.length) (hb : K.msg.length < 100000) : Calls Tryz.prog 56 #[.pointer (some ⟨p, 0, none⟩)] w (QPost (.int .i64 T) w) := by
  obtain ⟨c0, c1, c2, c3, c4, c5, c6, c7, c8⟩ := h.cells
  obtain ⟨sk, hsk⟩ : ∃ sk, sk = K.skip := ⟨_, rfl⟩
  obtain ⟨L, hL⟩ : ∃ L, L = K.msg.length := ⟨_, rfl⟩
  rw [← hL] at c0 hb hT
  rw [← hsk] at c8 hT
  have w1 : IntKind.i64.wrap ((L : Int) - (sk : Int)) = (T : Int) := by rw [IntKind.wrap_i64]; omega
  clear h c1 c2 c3 c4 c5 c6 c7 hsk hL hT
  go_enter Tryz.func56, Tryz.ntmps56
  go_wp2_with fail
  go_quiet (fail)
  go_wp2_with fail
  go_ret
  exact ⟨rfl, _, rfl⟩
end
end Go.Proofs.YtcadknfcahmdcaaGreat
