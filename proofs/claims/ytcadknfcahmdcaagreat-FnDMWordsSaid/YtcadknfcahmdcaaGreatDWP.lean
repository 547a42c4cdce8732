/-
  The encoder's context: the methods that count, and those that write, walked. No condition beyond the bounds that each theorem states.
-/
import Derived.Test.YtcadknfcahmdcaaGreatDWO
import Derived.Deep.RegionLaw
namespace Go.Proofs.YtcadknfcahmdcaaGreat
open Go.RowKit Go.Qz
set_option linter.unusedVariables false

section
variable {p : Nat} {K : CK} {ws : List Nat} {pos : Nat} {enc : Int} {sy : Option (Nat × Nat)} {v : Value}
set_option maxRecDepth 100000 in
theorem hasMore (w : World) (h : Ctx w p K ws pos enc sy v) (T : Nat) (hT : T + K.skip = K.msg.length) (hb : K.msg.length < 100000) : Calls Tryz.prog 35 #[.pointer (some ⟨p, 0, none⟩)] w (QPost (.bool (decide (pos < T))) w) := by
  obtain ⟨c0, c1, c2, c3, c4, c5, c6, c7, c8⟩ := h.cells
  have HT := Lib.hid (fun n => getTotal (w.drewN n) (h.same (Same.drewN w n)) T hT hb)
  clear h c0 c1 c2 c3 c4 c6 c7 c8 hT hb
  go_enter Tryz.func35, Tryz.ntmps35
  go_wp2_with fail
  go_quiet ((go_at_call 56; exact Calls.quiet_of (HT.out _)))
  go_wp2_with fail
  go_ret
  exact ⟨by simp, _, rfl⟩
set_option maxRecDepth 100000 in
theorem getRemain (w : World) (h : Ctx w p K ws pos enc sy v) (T R : Nat) (hT : T + K.skip = K.msg.length) (hb : K.msg.length < 100000) (hR : R + pos = T) : Calls Tryz.prog 145 #[.pointer (some ⟨p, 0, none⟩)] w (QPost (.int .i64 R) w) := by
  obtain ⟨c0, c1, c2, c3, c4, c5, c6, c7, c8⟩ := h.cells
  have HT := Lib.hid (fun n => getTotal (w.drewN n) (h.same (Same.drewN w n)) T hT hb)
  have w1 : IntKind.i64.wrap ((T : Int) - (pos : Int)) = (R : Int) := by rw [IntKind.wrap_i64]; omega
  clear h c0 c1 c2 c3 c4 c6 c7 c8 hT hb hR
  go_enter Tryz.func145, Tryz.ntmps145
  go_wp2_with fail
  go_quiet ((go_at_call 56; exact Calls.quiet_of (HT.out _)))
  go_wp2_with fail
  go_ret
  exact ⟨rfl, _, rfl⟩
/-- Behind a writing method. -/
def WPost (p : Nat) (K : CK) (ws : List Nat) (pos : Nat) (enc : Int) (sy : Option (Nat × Nat)) (v : Value) (w : World) (e : Ending) (w' : World) : Prop := ∃ v', e = .returned (.tuple #[]) ∧ Hid (Ctx w' p K ws pos enc sy v') ∧ Hid (Step p v v' w w')
set_option maxRecDepth 100000 in
theorem writeWord (w : World) (h : Ctx w p K ws pos enc sy v) (c : Nat) (hw : ws.length < 100000) : Calls Tryz.prog 33 #[.pointer (some ⟨p, 0, none⟩), .int .u8 c] w (WPost p K (ws ++ [c]) pos enc sy v w) := by
  have HC := Lib.hid h
  obtain ⟨g, off, cap, rfl, _⟩ := h.cw.block
  obtain ⟨c0, c1, c2, c3, c4, c5, c6, c7, c8⟩ := h.cells
  clear h c0 c1 c2 c3 c5 c6 c7 c8
  go_enter Tryz.func33, Tryz.ntmps33
  go_wp2_with (at_builtin; refine wpList_pushL _ _ 24 K.B 5 (.int .u8 0) 1 (.slice (some ⟨g, off, none⟩) ws.length cap) ws.length (bys ws) (.int .u8 c) rfl rfl rfl rfl Tryz.underlying24 Tryz.infoBy rfl rfl (by decide) HC.out.cw (by omega) HC.out.bh ?_)
  intro v' w' ho hg
  have e1 : bys ws ++ [.int .u8 c] = bys (ws ++ [c]) := by rw [bys_append]; rfl
  rw [e1] at ho
  have e2 : ws.length + 1 = (ws ++ [c]).length := by simp
  rw [e2] at ho
  obtain ⟨hc', hst, c4', f4'⟩ := HC.out.grow hg ho
  obtain ⟨n', hn'⟩ : ∃ n', n' = (ws ++ [c]).length := ⟨_, rfl⟩
  obtain ⟨g', off', cap', hv', _⟩ := ho.block
  rw [← hn'] at hv'
  subst hv'
  have HC' := Lib.hid hc'
  have HST := Lib.hid hst
  clear hc' hst ho hg c4 HC e1 e2 hn'
  go_wp2_with fail
  go_end0
  exact ⟨_, rfl, HC', HST⟩
set_option maxRecDepth 100000 in
theorem writeWords (w : World) (h : Ctx w p K ws pos enc sy v) (cs : List Nat) (b off2 c : Nat) (hr : ∀ j u, (bys cs)[j]? = some u → w.cell? ⟨b, off2 + j, none⟩ = some u) (hw : ws.length + cs.length < 100000) :
    Calls Tryz.prog 139 #[.pointer (some ⟨p, 0, none⟩), .slice (some ⟨b, off2, none⟩) cs.length c] w (WPost p K (ws ++ cs) pos enc sy v w) := by
  have HC := Lib.hid h
  have HR := Lib.hid hr
  obtain ⟨g, off, cap, rfl, _⟩ := h.cw.block
  obtain ⟨c0, c1, c2, c3, c4, c5, c6, c7, c8⟩ := h.cells
  clear h c0 c1 c2 c3 c5 c6 c7 c8 hr
  go_enter Tryz.func139, Tryz.ntmps139
  go_wp2_with (at_builtin; refine wpList_copyL _ _ 24 K.B 5 (.int .u8 0) 1 (.slice (some ⟨g, off, none⟩) ws.length cap) ws.length (bys ws) b off2 cs.length c (bys cs) rfl rfl rfl rfl Tryz.underlying24 Tryz.infoBy rfl (bys_one cs) (by decide) HC.out.cw (bys_len cs) HR.out (by omega) HC.out.bh ?_)
  intro v' w' ho hg
  rw [← bys_append] at ho
  have e2 : ws.length + cs.length = (ws ++ cs).length := by simp
  rw [e2] at ho
  obtain ⟨hc', hst, c4', f4'⟩ := HC.out.grow hg ho
  obtain ⟨n', hn'⟩ : ∃ n', n' = (ws ++ cs).length := ⟨_, rfl⟩
  obtain ⟨g', off', cap', hv', _⟩ := ho.block
  rw [← hn'] at hv'
  subst hv'
  have HC' := Lib.hid hc'
  have HST := Lib.hid hst
  clear hc' hst ho hg c4 HC e2 hn'
  go_wp2_with fail
  go_end0
  exact ⟨_, rfl, HC', HST⟩
set_option maxRecDepth 100000 in
theorem signal (w : World) (h : Ctx w p K ws pos enc sy v) (x : Int) : Calls Tryz.prog 106 #[.pointer (some ⟨p, 0, none⟩), .int .i64 x] w (WPost p K ws pos x sy v w) := by
  have HC' := Lib.hid (h.setEnc x)
  have HST : Hid (Step p v v w (w.setCell ⟨p, 6, none⟩ (.int .i64 x))) := Lib.hid (Step.of_p (Mod.set1 w p 6 _))
  obtain ⟨c0, c1, c2, c3, c4, c5, c6, c7, c8⟩ := h.cells
  have f6 := h.ar.free 6
  clear h c0 c1 c2 c3 c4 c5 c7 c8
  go_enter Tryz.func106, Tryz.ntmps106
  go_wp2_with fail
  go_end0
  exact ⟨v, rfl, HC', HST⟩
set_option maxRecDepth 100000 in
theorem resetSignal (w : World) (h : Ctx w p K ws pos enc sy v) : Calls Tryz.prog 37 #[.pointer (some ⟨p, 0, none⟩)] w (WPost p K ws pos (-1) sy v w) := by
  have HC' := Lib.hid (h.setEnc (-1))
  have HST : Hid (Step p v v w (w.setCell ⟨p, 6, none⟩ (.int .i64 (-1)))) := Lib.hid (Step.of_p (Mod.set1 w p 6 _))
  obtain ⟨c0, c1, c2, c3, c4, c5, c6, c7, c8⟩ := h.cells
  have f6 := h.ar.free 6
  clear h c0 c1 c2 c3 c4 c5 c7 c8
  go_enter Tryz.func37, Tryz.ntmps37
  go_wp2_with fail
  go_end0
  exact ⟨v, rfl, HC', HST⟩
set_option maxRecDepth 100000 in
theorem resetSym (w : World) (h : Ctx w p K ws pos enc sy v) : Calls Tryz.prog 137 #[.pointer (some ⟨p, 0, none⟩)] w (WPost p K ws pos enc none v w) := by
  have HC' := Lib.hid (h.setSym none trivial)
  have HST : Hid (Step p v v w (w.setCell ⟨p, 7, none⟩ (symV none))) := Lib.hid (Step.of_p (Mod.set1 w p 7 _))
  obtain ⟨c0, c1, c2, c3, c4, c5, c6, c7, c8⟩ := h.cells
  have f7 := h.ar.free 7
  unfold symV at HC' HST
  clear h c0 c1 c2 c3 c4 c5 c6 c8
  rcases sy with _ | ⟨q, d⟩
  all_goals
    unfold symV at c7
    go_enter Tryz.func137, Tryz.ntmps137
    go_wp2_with fail
    go_end0
    exact ⟨v, rfl, HC', HST⟩
/-- The symbol behind an update: it is kept where it has room. -/
def updS (sh n : Nat) : Option (Nat × Nat) → Nat
  | none => DV.capFor sh n
  | some (_, d) => if d < n then DV.capFor sh n else d
theorem updS_lt {sh n q d : Nat} (h : d < n) : updS sh n (some (q, d)) = DV.capFor sh n := if_pos h
theorem updS_ge {sh n q d : Nat} (h : ¬ d < n) : updS sh n (some (q, d)) = d := if_neg h
def UpdPost (p : Nat) (K : CK) (ws : List Nat) (pos : Nat) (enc : Int) (d : Nat) (v : Value) (w : World) (e : Ending) (w' : World) : Prop := ∃ q, e = .returned .nilIface ∧ Hid (Ctx w' p K ws pos enc (some (q, d)) v) ∧ Hid (Step p v v w w')
set_option maxRecDepth 100000 in
set_option maxHeartbeats 1600000 in
theorem updBy (w : World) (h : Ctx w p K ws pos enc sy v) (n : Nat) (hsh : K.sh ≤ 2) (hn : n ≤ capMost K.sh) : Calls Tryz.prog 57 #[.pointer (some ⟨p, 0, none⟩), .int .i64 n] w (UpdPost p K ws pos enc (updS K.sh n sy) v w) := by
  have HC := Lib.hid h
  have HL := Lib.hid (fun W => dmLook K.sh n hsh hn W)
  obtain ⟨c0, c1, c2, c3, c4, c5, c6, c7, c8⟩ := h.cells
  have f7 := h.ar.free 7
  have hnb : n ≤ 1304 := by unfold capMost at hn; split at hn <;> omega
  obtain ⟨sh, hsh'⟩ : ∃ sh, sh = K.sh := ⟨_, rfl⟩
  rw [← hsh'] at HL c1 hsh
  have HSH := Lib.hid hsh'
  clear h c0 c4 c5 c6 c8 hn hsh'
  rcases sy with _ | ⟨q0, d0⟩
  · unfold symV at c7
    go_enter Tryz.func57, Tryz.ntmps57
    go_wp2_with fail
    go_region_law (first | (go_simp; go_at_call 63; refine (HL.out _).mono ?_; rintro e w1 ⟨q, r, e1, x, y, rfl, HA, HB⟩; have HC1 := Lib.hid (HC.out.same (Mod.trans (S := fun _ => False) (Same.drewN w 1) (Same.of_below HB.out))); have c7' := HC1.out.cells.2.2.2.2.2.2.2.1; have f7' := HC1.out.ar.free 7; unfold symV at c7'; have HC2 := Lib.hid (HC1.out.setSym (some (q, DV.capFor sh n)) ⟨r, e1, x, y, HA.out⟩); have HS2 : Hid (Step p v v w (w1.setCell ⟨p, 7, none⟩ (symV (some (q, DV.capFor sh n))))) := Lib.hid (Step.of_p ((Mod.mono (S := fun _ => False) (Mod.trans (S := fun _ => False) (Same.drewN w 1) (Same.of_below HB.out)) fun _ _ h => h.elim).trans (Mod.set1 w1 p 7 _))); unfold symV at HC2 HS2))
    all_goals
      go_wp2_with fail
      go_ret
      exact ⟨_, rfl, HSH.out ▸ HC2, HS2⟩
  · unfold symV at c7
    have HGC := Lib.hid (getCap w q0 d0 HC.out)
    by_cases hd : d0 < n
    · have hd' : (d0 < n) = True := by simp [hd]
      have hdi : (d0 : Int) < (n : Int) := by omega
      have HD := Lib.hid hd
      go_enter Tryz.func57, Tryz.ntmps57
      go_wp2_with fail
      refine HGC.out.mono ?_
      rintro e w' ⟨rfl, rfl⟩
      go_wp2_with fail
      go_region_law (first | (go_simp; go_at_call 63; refine (HL.out _).mono ?_; rintro e w1 ⟨q, r, e1, x, y, rfl, HA, HB⟩; have HC1 := Lib.hid (HC.out.same (Mod.trans (S := fun _ => False) (Same.drewN w 1) (Same.of_below HB.out))); have c7' := HC1.out.cells.2.2.2.2.2.2.2.1; have f7' := HC1.out.ar.free 7; unfold symV at c7'; have HC2 := Lib.hid (HC1.out.setSym (some (q, DV.capFor sh n)) ⟨r, e1, x, y, HA.out⟩); have HS2 : Hid (Step p v v w (w1.setCell ⟨p, 7, none⟩ (symV (some (q, DV.capFor sh n))))) := Lib.hid (Step.of_p ((Mod.mono (S := fun _ => False) (Mod.trans (S := fun _ => False) (Same.drewN w 1) (Same.of_below HB.out)) fun _ _ h => h.elim).trans (Mod.set1 w1 p 7 _))); unfold symV at HC2 HS2))
      all_goals
        go_wp2_with fail
        go_ret
        exact ⟨_, rfl, (by rw [updS_lt HD.out]; exact HSH.out ▸ HC2), HS2⟩
    · have hd' : (d0 < n) = False := by simp; omega
      have hdi : ((d0 : Int) < (n : Int)) = False := by simp; omega
      have HD := Lib.hid hd
      go_enter Tryz.func57, Tryz.ntmps57
      go_wp2_with fail
      refine HGC.out.mono ?_
      rintro e w' ⟨rfl, rfl⟩
      go_wp2_with fail
      go_ret
      exact ⟨q0, rfl, by rw [updS_ge HD.out]; exact HC, Lib.hid (Step.refl p v w)⟩
set_option maxRecDepth 100000 in
theorem upd (w : World) (h : Ctx w p K ws pos enc sy v) (hsh : K.sh ≤ 2) (hn : ws.length ≤ capMost K.sh) : Calls Tryz.prog 39 #[.pointer (some ⟨p, 0, none⟩)] w (UpdPost p K ws pos enc (updS K.sh ws.length sy) v w) := by
  have HG := Lib.hid (getCount w h)
  have HU := Lib.hid (updBy w h ws.length hsh hn)
  clear h hsh hn
  go_enter Tryz.func39, Tryz.ntmps39
  go_wp2_with fail
  refine HG.out.mono ?_
  rintro e w' ⟨rfl, rfl⟩
  go_wp2_with fail
  refine HU.out.mono ?_
  rintro e w' ⟨q, rfl, HC, HS⟩
  go_wp2_with fail
  go_ret
  exact ⟨q, rfl, HC, HS⟩
end
end Go.Proofs.YtcadknfcahmdcaaGreat
