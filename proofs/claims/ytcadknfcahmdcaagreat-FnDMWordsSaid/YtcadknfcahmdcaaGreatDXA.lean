/-
  C40Encoder in memory; the state at the end of a segment (plain). No condition beyond the bounds that each theorem states.
-/
import Derived.Test.YtcadknfcahmdcaaGreatDWW
import Derived.Test.YtcadknfcahmdcaaGreatDWU
namespace Go.Proofs.YtcadknfcahmdcaaGreat
open Go.RowKit Go.Qz Go.Qz.DF
open Go.Qz.DV hiding val run part
set_option linter.unusedVariables false

/-- An encoder of C40 or Text: its mode, its function. -/
def EncA (w : World) (cb m F : Nat) : Prop := Arr w 85 cb [.int .i64 m, .func (.func F) #[] #[]]
section
variable {w w' : World} {p : Nat} {K : CK} {ws : List Nat} {pos : Nat} {enc : Int} {sy : Option (Nat × Nat)} {v v' bv bv' : Value} {base cb m F : Nat} {xs : List Nat}
theorem EncA.same (h : EncA w cb m F) (hs : Same w w') : EncA w' cb m F := Arr.mod (S := fun _ => False) h hs (fun h => h)
theorem EncA.step (h : EncA w cb m F) (hc : Ctx w p K ws pos enc sy v) (hs : Step p v v' w w') : EncA w' cb m F := Arr.mod h hs.1 (fun e => by
  rcases e with e | e
  · exact arr_ne h hc.ar (by decide) e
  · exact off_ne hc.cw h (by decide) e)
theorem EncA.grew (h : EncA w cb m F) (hb : Buf w K v base bv xs) (hg : Grew w w' bv bv') : EncA w' cb m F := Arr.mod h hg.1 (fun e => off_ne hb.off h (by decide) e)
/-- Another buffer grows. -/
theorem Buf.other {rv rv' : Value} {ys : List Nat} (h : Buf w K v base bv xs) (hr : Buf w K v base rv ys) (hne : rv.ownBlock ≠ bv.ownBlock) (hg : Grew w w' rv rv') : Buf w' K v base bv xs ∧ rv'.ownBlock ≠ bv.ownBlock := by
  refine ⟨⟨h.off.mod hg.1 (fun b hb e => hne (e.trans hb.symm)), h.ne, h.nm, Nat.le_trans h.bb hg.1.size⟩, ?_⟩
  rcases hg.2 with e | ⟨b, e, hb⟩
  · rw [e]; exact hne
  · rw [e]; intro e2
    obtain ⟨g, off, cap, _, hob, hlt, _⟩ := h.off.block
    rw [hob] at e2; injection e2 with e2; omega
theorem Buf.take {g off n cap k : Nat} (h : Buf w K v base (.slice (some ⟨g, off, none⟩) n cap) xs) (hn : n = xs.length) (hk : k ≤ n) : Buf w K v base (.slice (some ⟨g, off, none⟩) k cap) (xs.take k) := by
  have h1 := h.off
  rw [← hn] at h1
  have := h1.take hk
  rw [bys_take] at this
  have e : (xs.take k).length = k := by rw [List.length_take]; omega
  exact ⟨by rw [e]; exact this, h.ne, h.nm, h.bb⟩
set_option maxRecDepth 100000 in
theorem encMode (w : World) (h : EncA w cb m F) : Calls Tryz.prog 134 #[.pointer (some ⟨cb, 0, none⟩)] w fun e w' => e = .returned (.int .i64 m) ∧ w = w' := by
  have c0 := Arr.cell? h 0
  simp only [List.getElem?_cons_zero] at c0
  clear h
  go_enter Tryz.func134, Tryz.ntmps134
  go_wp2_with fail
  go_ret
  exact ⟨rfl, rfl⟩
end
/-- The symbol that is known is the least one for no more words. -/
def SyOk (sh L : Nat) (sy : Option (Nat × Nat)) : Prop := sy = none ∨ ∃ q L', sy = some (q, capFor sh L') ∧ L' ≤ L
theorem SyOk.upd {sh L n : Nat} {sy : Option (Nat × Nat)} (h : SyOk sh L sy) (hL : L ≤ n) : updS sh n sy = capFor sh n := by
  rcases h with rfl | ⟨q, L', rfl, hl⟩
  · rfl
  · rcases Nat.lt_or_ge (capFor sh L') n with hlt | hge
    · exact updS_lt hlt
    · rw [updS_ge (by omega)]
      exact (capFor_stay (by omega) hge).symm
theorem SyOk.mono {sh L M : Nat} {sy : Option (Nat × Nat)} (h : SyOk sh L sy) (hL : L ≤ M) : SyOk sh M sy := by
  rcases h with rfl | ⟨q, L', rfl, hl⟩
  · exact .inl rfl
  · exact .inr ⟨q, L', rfl, by omega⟩
/-- The ways to the end, with the size of the last byte. -/
def BtInv (m : Nat) (s : List Nat) (pos T a : Nat) (X : List Nat) (q lx : Nat) : Prop :=
  (X = evs m (DV.part s pos T) ∧ q = T ∧ lx = (ev m (nth s (T - 1))).length ∧ ¬ (X.length % 3 = 2 ∧ a ≠ 2)) ∨
  (X = evs m (DV.part s pos (T - 1)) ∧ q = T - 1 ∧ lx = (ev m (nth s (T - 1))).length ∧ (((evs m (DV.part s pos T)).length % 3 = 2 ∧ a ≠ 2) ∨ ((evs m (DV.part s pos T)).length % 3 = 1 ∧ a ≠ 1))) ∨
  (∃ x, evs m (DV.part s pos (T - 1)) = X ++ [x] ∧ q = T - 2 ∧ X.length % 3 = 0)
theorem BtInv.endSt {m : Nat} {s : List Nat} {pos T a : Nat} {X : List Nat} {q lx : Nat} (h : BtInv m s pos T a X q lx) : EndSt m s pos T a X q := by
  rcases h with ⟨h1, h2, _, h3⟩ | ⟨h1, h2, _, h3⟩ | h
  · exact .inl ⟨h1, h2, h3⟩
  · exact .inr (.inl ⟨h1, h2, h3⟩)
  · exact .inr (.inr h)
section
variable {m T pos a : Nat} {s X : List Nat} {q lx : Nat}
theorem ev_len (hm : m = 1 ∨ m = 2) {c : Nat} (hc : c < 128) : 1 ≤ (ev m c).length ∧ (ev m c).length ≤ 2 := by
  obtain ⟨_, _, h⟩ := ev_ok hm hc
  rcases h with h | h <;> omega
theorem evs_T (hm : m = 1 ∨ m = 2) (hs : ∀ i, i < s.length → nth s i < 128) (hT : T ≤ s.length) (hp : pos + 2 < T) : evs m (DV.part s pos T) = evs m (DV.part s pos (T - 1)) ++ ev m (nth s (T - 1)) := by
  have := evs_snoc (pos := pos) hm hs (q := T - 1) (by omega) (by omega)
  rwa [show T - 1 + 1 = T by omega] at this
/-- The first byte is given back. -/
theorem bt_first (hm : m = 1 ∨ m = 2) (hs : ∀ i, i < s.length → nth s i < 128) (hT : T ≤ s.length) (hp : pos + 2 < T) (h : (evs m (DV.part s pos T)).length % 3 = 2 ∧ a ≠ 2) :
    BtInv m s pos T a ((evs m (DV.part s pos T)).take ((evs m (DV.part s pos T)).length - (ev m (nth s (T - 1))).length)) (T - 1) (ev m (nth s (T - 1))).length ∧ (ev m (nth s (T - 1))).length ≤ (evs m (DV.part s pos T)).length := by
  have e := evs_T hm hs hT hp
  have el := congrArg List.length e
  rw [List.length_append] at el
  refine ⟨.inr (.inl ⟨?_, rfl, rfl, .inl h⟩), by omega⟩
  rw [el, Nat.add_sub_cancel, e, List.take_left']
  rfl
/-- One more. -/
theorem bt_next (hm : m = 1 ∨ m = 2) (hs : ∀ i, i < s.length → nth s i < 128) (hT : T ≤ s.length) (hp : pos + 2 < T) (h : BtInv m s pos T a X q lx) (h1 : X.length % 3 = 1) (ha : a ≠ 1) :
    lx ≤ X.length ∧ 2 ≤ q ∧ q ≤ T ∧ BtInv m s pos T a (X.take (X.length - lx)) (q - 1) (ev m (nth s (q - 1))).length := by
  have e := evs_T hm hs hT hp
  have el := congrArg List.length e
  rw [List.length_append] at el
  have hl := ev_len hm (hs (T - 1) (by omega))
  rcases h with ⟨rfl, rfl, rfl, h3⟩ | ⟨rfl, rfl, rfl, h3⟩ | ⟨x, _, _, h3⟩
  · refine ⟨by omega, by omega, Nat.le_refl _, .inr (.inl ⟨?_, rfl, rfl, .inr ⟨h1, ha⟩⟩)⟩
    rw [el, Nat.add_sub_cancel, e, List.take_left']
    rfl
  · have hl1 : (ev m (nth s (T - 1))).length = 1 := by omega
    obtain ⟨Y, y, hY⟩ := snoc_ex (V := evs m (DV.part s pos (T - 1))) (by omega)
    have hYl := congrArg List.length hY
    rw [List.length_append, List.length_singleton] at hYl
    refine ⟨by omega, by omega, by omega, .inr (.inr ⟨y, ?_, by omega, ?_⟩)⟩
    · rw [hl1, hYl, Nat.add_sub_cancel, hY, List.take_left']
      rfl
    · rw [List.length_take]; omega
  · omega
end
/-- What encode does in C40 and Text. -/
def C40Post (p : Nat) (K : CK) (ws : List Nat) (pos T m : Nat) (v0 : Value) (w0 : World) (e : Ending) (w' : World) : Prop :=
  ∃ (v' : Value) (tl : List Nat) (pos' q L' : Nat), e = .returned .nilIface ∧ Hid (Ctx w' p K (ws ++ tl) pos' 0 (some (q, capFor K.sh L')) v') ∧ Hid (Step p v0 v' w0 w') ∧ Hid (C40Out K.sh T m K.msg ws.length pos tl pos') ∧ Hid (L' ≤ ws.length + tl.length)
theorem eod_len (V : List Nat) (a pos T : Nat) : 2 * (V.length / 3) ≤ (eodTail V a pos T).length := by
  unfold eodTail
  split
  · have := trips_len2 (V ++ [0]).length (V ++ [0]) (Nat.le_refl _)
    rw [List.length_append] at this ⊢
    have h1 : ([0] : List Nat).length = 1 := rfl
    omega
  · split
    · have := trips_len2 V.length V (Nat.le_refl _)
      rw [List.length_append]; omega
    · have := trips_len2 V.length V (Nat.le_refl _)
      rw [List.length_append]; omega
theorem cap_le_most (sh : Nat) : capMost sh ≤ mostOf sh := by unfold capMost mostOf; split <;> omega
/-- The end of a segment, by what its values are. -/
theorem eodCall {p m : Nat} {K : CK} {ws : List Nat} {pos q : Nat} {enc : Int} {sy : Option (Nat × Nat)} {v v0 : Value} (w0 w : World) (h : Ctx w p K ws q enc sy v) (hs : Step p v0 v w0 w) (T : Nat) (hT : T + K.skip = K.msg.length) (hlen : K.msg.length ≤ 1000) (hsh : K.sh ≤ 2) (hq1 : 1 ≤ q) (hqT : q ≤ T) (X : List Nat) (hX : ∀ x ∈ X, x < 40) (g off n cap base : Nat) (hbase : base = w0.heap.size) (hn : n = X.length) (hnb : n ≤ 3000) (hw : ws.length ≤ 2000) (hb : Buf w K v base (.slice (some ⟨g, off, none⟩) n cap) X)
    (hcur : ws.length + 2 * (n / 3) ≤ capMost K.sh) (hsy : SyOk K.sh (ws.length + 2 * (n / 3)) sy) (hout : ∀ a', ws.length + 2 * (X.length / 3) + a' = capFor K.sh (ws.length + 2 * (X.length / 3)) → (X.length % 3 = 1 → a' = 1) ∧ C40Out K.sh T m K.msg ws.length pos (eodTail X a' q T) (eodPos X q)) :
    Calls Tryz.prog 136 #[.pointer (some ⟨p, 0, none⟩), .slice (some ⟨g, off, none⟩) n cap] w (C40Post p K ws pos T m v0 w0) := by
  have hm := cap_le_most K.sh
  have hcap := capFor_mem hsh (show ws.length + 2 * (n / 3) ≤ mostOf K.sh by omega)
  have hcapl := capFor_le hsh (show ws.length + 2 * (n / 3) ≤ mostOf K.sh by omega)
  have hmo : mostOf K.sh ≤ 1558 := by unfold mostOf; split <;> omega
  obtain ⟨h1, h2⟩ := hout (capFor K.sh (ws.length + 2 * (n / 3)) - (ws.length + 2 * (n / 3))) (by rw [← hn]; omega)
  refine (c40EOD v0 w0 w h hs T hT hlen hq1 hqT hsh X hX g off n cap base hbase hn hnb hw hb hcur (capFor K.sh (ws.length + 2 * (n / 3))) (capFor K.sh (ws.length + 2 * (n / 3)) - (ws.length + 2 * (n / 3))) (hsy.upd (Nat.le_refl _)).symm (by omega) (by omega) (fun e => h1 (by rw [← hn]; exact e))).mono ?_
  rintro e w' ⟨v', sq, rfl, HC, HS⟩
  refine ⟨v', _, _, sq, ws.length + 2 * (n / 3), rfl, HC, HS, Lib.hid h2, Lib.hid ?_⟩
  have := eod_len X (capFor K.sh (ws.length + 2 * (n / 3)) - (ws.length + 2 * (n / 3))) q T
  rw [hn] at this ⊢
  omega
theorem atEnc {w : World} {p cb m F : Nat} {K : CK} {ws : List Nat} {pos : Nat} {enc : Int} {sy : Option (Nat × Nat)} {v : Value} (h : EncA w cb m F) (X : World) (hX : X.cell? ⟨p, 5, none⟩ = some (.int .i64 pos) ∧ Hid (Same w X)) : Calls Tryz.prog 134 #[.pointer (some ⟨cb, 0, none⟩)] X fun e w' => e = .returned (.int .i64 m) ∧ (w'.cell? ⟨p, 5, none⟩ = some (.int .i64 pos) ∧ Hid (Same w w')) :=
  (encMode X (h.same hX.2.out)).mono (by rintro e w' ⟨rfl, rfl⟩; exact ⟨rfl, hX⟩)
/-- The state at the end of a segment, in memory. -/
def BtMem (K : CK) (p : Nat) (ws : List Nat) (pos T a m F cb base nm : Nat) (v0 : Value) (w0 : World) (k : Nat) (b lc rm : Value) (wx : World) : Prop :=
  ∃ (X Rm : List Nat) (g off n cap lx : Nat) (sy' : Option (Nat × Nat)) (v : Value), b = .slice (some ⟨g, off, none⟩) n cap ∧ lc = .int .i64 lx ∧ lx ≤ 2 ∧ n ≤ nm ∧ k ≤ T ∧ pos < k ∧ Hid (n = X.length) ∧ Hid (Buf wx K v base (.slice (some ⟨g, off, none⟩) n cap) X) ∧ Hid (Buf wx K v base rm Rm) ∧ Hid (rm.ownBlock ≠ some g) ∧ Hid (Rm.length ≤ 2 * (T - k)) ∧ Hid (Ctx wx p K ws k (-1) sy' v) ∧ Hid (Step p v0 v w0 wx) ∧ Hid (EncA wx cb m F) ∧ Hid (BtInv m K.msg pos T a X k lx) ∧ Hid (SyOk K.sh (ws.length + 2 * (n / 3)) sy')
end Go.Proofs.YtcadknfcahmdcaaGreat
