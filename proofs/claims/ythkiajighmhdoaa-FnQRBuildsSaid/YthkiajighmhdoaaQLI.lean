/-
  A matrix as rows of numbers; a QR symbol built, walked. No condition beyond the bounds that each theorem states.
-/
import Derived.Test.YthkiajighmhdoaaQKZ
import Derived.Test.YthkiajighmhdoaaQLA
import Derived.Test.YthkiajighmhdoaaPSH
import Derived.Test.YthkiajighmhdoaaQKG
namespace Go.Proofs.Ythkiajighmhdoaa
open Go.RowKit Go.Qz Go.Qz.QK Go.Qz.QW
open Go.Qz.QB (fb vb rrest vb_lt fb_lt)
set_option linter.unusedVariables false

/-- 'append(v, xs...)' onto a row of the call's own, xs read as f: nil, empty or not. -/
theorem wpList_copyAtB {P : Program} {W : World} {ops : Array Oper} {rest : List Oper} {o : Oper} {a : Act} {Q : Exit → Act → World → Prop} (s x : Operand) (t : TypeId)
    (base : Nat) (e : TypeId) (z : Value) (bytes : Nat) (v : Value) (n : Nat) (xs : List Value) (A : Option Addr) (m c : Nat) (f : Nat → Value)
    (hgd : o.guard = none) (ho : o.op = .call { callee := .builtin .append, args := #[s, x], argTypes := #[t, t] })
    (hs : a.eval s = v) (hx : a.eval x = .slice A m c)
    (ht : P.underlying t = some (.slice e)) (hi : (P.info? e).map (fun i => (i.zero, i.size, i.bytes)) = some (some z, 1, bytes)) (hzs : z.cells.size = 1) (h1 : ∀ j, j < m → (f j).oneCell' = true) (hb : bytes ≤ 64)
    (hown : W.ownsRow base e 1 v n xs) (hr : Rd W A m f) (hn : n + m < 1099511627776) (hbase : base ≤ W.heap.size)
    (h : ∀ v' w', w'.ownsRow base e 1 v' (n + m) (xs ++ (List.range m).map f) → W.grownBy w' v.ownBlock → Below base W w' → wpList P ops Q rest (a.put o.dst v') w') :
    wpList P ops Q (o :: rest) a W := wpList_copyTo s x t base e z bytes v n xs A m c f hgd ho hs hx ht hi hzs h1 hb hown hr hn hbase h
/-- k rows of W values each that were appended; rows lie in blocks of the call's own. -/
structure IPile (w : World) (base : Nat) (v : Value) (k W : Nat) (V : Nat → Value) (f : Nat → Nat → Value) : Prop where
  own : w.ownsRow base 45 1 v k ((List.range k).map V)
  row : ∀ r, r < k → ∃ b C, V r = .slice (some ⟨b, 0, none⟩) W C ∧ base ≤ b ∧ b < w.heap.size ∧ v.ownBlock ≠ some b ∧ W ≤ C ∧ ∀ c, c < W → w.cell? ⟨b, c, none⟩ = some (f r c)
theorem IPile.zero (w : World) (base W : Nat) (f : Nat → Nat → Value) : IPile w base (.slice none 0 0) 0 W (fun _ => undef) f := ⟨World.ownsRow_nil _ _ _ _, fun r hr => by omega⟩
theorem IPile.below {w w' : World} {base k W : Nat} {v : Value} {V : Nat → Value} {f : Nat → Nat → Value} (h : IPile w base v k W V f) (hb : Below w.heap.size w w') : IPile w' base v k W V f :=
  ⟨own_below h.own hb, fun r hr => by
    obtain ⟨b, C, e, h1, h2, h3, h4, h5⟩ := h.row r hr
    exact ⟨b, C, e, h1, Nat.lt_of_lt_of_le h2 hb.size, h3, h4, fun c hc => (hb.cell (p := ⟨b, c, none⟩) h2).trans (h5 c hc)⟩⟩
theorem IPile.push {w w' : World} {base k W : Nat} {v v' : Value} {V : Nat → Value} {f : Nat → Nat → Value} (h : IPile w base v k W V f) {b C : Nat} (h1 : base ≤ b) (h2 : b < w.heap.size) (h3 : v.ownBlock ≠ some b) (h4 : W ≤ C) (h5 : ∀ c, c < W → w.cell? ⟨b, c, none⟩ = some (f k c))
    (hown : w'.ownsRow base 45 1 v' (k + 1) ((List.range k).map V ++ [.slice (some ⟨b, 0, none⟩) W C])) (hg : w.grownBy w' v.ownBlock) (hl : v'.ownBlock = v.ownBlock ∨ v'.ownBlock = some (w.heap.size + 1)) :
    IPile w' base v' (k + 1) W (fun r => if r = k then .slice (some ⟨b, 0, none⟩) W C else V r) f := by
  have hlt : ∀ b, b < w.heap.size → v.ownBlock ≠ some b → v'.ownBlock ≠ some b := fun b hb hn e => by
    rcases hl with hl | hl
    · exact hn (hl ▸ e)
    · rw [hl] at e; injection e with e; omega
  refine ⟨?_, fun r hr => ?_⟩
  · rw [List.range_succ, List.map_append, List.map_cons, List.map_nil, if_pos rfl, List.map_congr_left (g := V) (fun r hr => if_neg (by have := List.mem_range.1 hr; omega))]
    exact hown
  · by_cases e : r = k
    · subst e
      exact ⟨b, C, if_pos rfl, h1, Nat.lt_of_lt_of_le h2 hg.size, hlt b h2 h3, h4, fun c hc => hg.cell (h5 c hc) (fun e => h3 e.symm)⟩
    · obtain ⟨b', C', e', k1, k2, k3, k4, k5⟩ := h.row r (by omega)
      exact ⟨b', C', by rw [if_neg e]; exact e', k1, Nat.lt_of_lt_of_le k2 hg.size, hlt b' k2 k3, k4, fun c hc => hg.cell (k5 c hc) (fun e => k3 e.symm)⟩
/-- Rows that can be read. -/
def GotR (w : World) (A : Option Addr) (n : Nat) (f : Nat → Nat → Value) : Prop := ∃ b, A = some ⟨b, 0, none⟩ ∧ b < w.heap.size ∧ ∀ r, r < n → ∃ b' C, w.cell? ⟨b, r, none⟩ = some (.slice (some ⟨b', 0, none⟩) n C) ∧ b' < w.heap.size ∧ ∀ c, c < n → w.cell? ⟨b', c, none⟩ = some (f r c)
theorem GotR.below {w w' : World} {A : Option Addr} {n : Nat} {f : Nat → Nat → Value} (h : GotR w A n f) (hb : Below w.heap.size w w') : GotR w' A n f := by
  obtain ⟨b, e, h1, h2⟩ := h
  refine ⟨b, e, Nat.lt_of_lt_of_le h1 hb.size, fun r hr => ?_⟩
  obtain ⟨b', C, k1, k2, k3⟩ := h2 r hr
  exact ⟨b', C, (hb.cell (p := ⟨b, r, none⟩) h1).trans k1, Nat.lt_of_lt_of_le k2 hb.size, fun c hc => (hb.cell (p := ⟨b', c, none⟩) k2).trans (k3 c hc)⟩
theorem IPile.got {w : World} {base n : Nat} {v : Value} {V : Nat → Value} {f : Nat → Nat → Value} (h : IPile w base v n n V f) (h0 : 0 < n) : ∃ A c, v = .slice A n c ∧ GotR w A n f := by
  have hc := fun g hg => h.own.cells (g := g) hg
  have hl := h.own.lt
  rcases h.own.2 with ⟨_, e0⟩ | ⟨g, cap, cur, rfl, hb, _⟩
  · omega
  · refine ⟨some ⟨g, 0, none⟩, cap, rfl, g, rfl, (hl g rfl).2, fun r hr => ?_⟩
    obtain ⟨b', C', e', k1, k2, k3, k4, k5⟩ := h.row r hr
    refine ⟨b', C', ?_, k2, k5⟩
    have := hc g rfl r (V r) (by simp [hr])
    rw [Addr.add_lit, Nat.zero_add] at this
    rw [this, e']
theorem own_copied {B : Nat} {w' : World} {e : TypeId} {v' : Value} {n : Nat} {f : Nat → Value} (h0 : 0 < n) (h : w'.ownsRow B e 1 v' n ((List.range n).map f)) :
    ∃ b C, v' = .slice (some ⟨b, 0, none⟩) n C ∧ B ≤ b ∧ b < w'.heap.size ∧ n ≤ C ∧ ∀ c, c < n → w'.cell? ⟨b, c, none⟩ = some (f c) := by
  have hc := fun g hg => h.cells (g := g) hg
  have hl := h.lt
  rcases h.2 with ⟨_, e0⟩ | ⟨g, cap, cur, rfl, hb, _, hcap, _⟩
  · omega
  · refine ⟨g, cap, rfl, hb, (hl g rfl).2, by omega, fun c hcn => ?_⟩
    have := hc g rfl c (f c) (by simp [hcn])
    rwa [Addr.add_lit, Nat.zero_add] at this
def BytesPost (n : Nat) (f : G) (w : World) (e : Ending) (w' : World) : Prop := ∃ A c, e = .returned (.slice A n c) ∧ Hid (GotR w' A n (fun r c => .int .i8 (f r c))) ∧ Hid (Below w.heap.size w w')
set_option maxRecDepth 100000 in
set_option maxHeartbeats 3200000 in
theorem bytesOf (M B n : Nat) (f : G) (h0 : 0 < n) (hn : n ≤ 400) (w : World) (h : MG w M B n f) :
    Calls Try.prog 34 #[.pointer (some ⟨M, 0, none⟩)] w (BytesPost n f w) := by
  have HM := Lib.hid h
  have HMA := Lib.hid (mat_array M B n _ w h)
  clear h
  go_enter Try.func34, Try.ntmps34
  go_wp2_with fail
  refine HMA.out.mono ?_
  rintro e w1 ⟨rfl, rfl⟩
  clear HMA
  go_wp2_with fail
  go_loopw [3, 9] (fun v i wr => ∃ k : Nat, k ≤ n ∧ i = .int .i64 k ∧ (∃ V, Hid (IPile wr w.heap.size v k n V (fun r c => .int .i8 (f r c)))) ∧ Hid (Below w.heap.size w wr)) (fun _ i _ => n - (intOf i).toNat)
  case atStart => exact ⟨0, by omega, rfl, ⟨_, Lib.hid (IPile.zero _ _ _ _)⟩, Lib.hid (Below.refl _ _)⟩
  case round =>
    obtain ⟨k, hk, rfl, ⟨V, HP⟩, HB⟩ := hrel
    obtain ⟨wi, hwi⟩ : ∃ wi, wi = wr := ⟨_, rfl⟩
    rw [← hwi] at HP HB ⊢
    clear hwi
    by_cases hlt : k < n
    · have hk1 : (k : Int) < (n : Int) := by omega
      have hk0 : (0 : Int) ≤ (k : Int) := by omega
      have HM2 : Hid (MG wi M B n f) := Lib.hid (HM.out.below HB.out)
      have c0 := HM2.out.grid.head k hlt hlt
      have HR : Hid (Rd wi (some ⟨B + 1 + k, 0, none⟩) n (fun c => .int .i8 (f k c))) := Lib.hid (fun _ => ⟨B + 1 + k, 0, rfl, (HM2.out.grid.row k hlt).lt, fun c hc => by rw [Nat.zero_add]; exact HM2.out.grid.cell k c hlt hc⟩)
      clear HM2
      go_wp2_with (at_builtin; refine wpList_copyAtB _ _ 45 wi.heap.size 46 (.int .i8 0) 1 _ 0 [] _ n n (fun c => .int .i8 (f k c)) rfl rfl rfl rfl Try.underlying45 Try.infoI8 rfl (fun _ _ => rfl) (by decide) (World.ownsRow_nil _ _ _ _) HR.out (by omega) (Nat.le_refl _) ?_)
      intro v' w3 hown3 hg3 hb3
      obtain ⟨b, C, rfl, hb1, hb2, hC, hcc⟩ := own_copied h0 hown3
      have HP3 := Lib.hid (HP.out.below hb3)
      have HB3 : Hid (Below w.heap.size w w3) := Lib.hid (HB.out.trans (hb3.mono HB.out.size))
      have HX := Lib.hid (And.intro hb1 (And.intro hb2 (And.intro hC hcc)))
      have HL := Lib.hid HP.out.own.lt
      have HS := Lib.hid HB.out.size
      clear hown3 hg3 hb3 hb1 hb2 hC hcc HP HB HR c0
      go_wp2_with (at_builtin; refine wpList_pushAt _ _ 39 w.heap.size 45 (.slice none 0 0) 24 _ k ((List.range k).map V) (.slice (some ⟨b, 0, none⟩) n C) rfl rfl rfl rfl Try.underlying39 Try.infoRowI rfl rfl (by decide) HP3.out.own (by omega) HB3.out.size ?_)
      intro v5 w5 hown5 hg5 hb5 hl5
      have HP5 := Lib.hid (HP3.out.push (Nat.le_trans HS.out HX.out.1) HX.out.2.1 (fun e => by have := HL.out b e; have := HX.out.1; omega) HX.out.2.2.1 HX.out.2.2.2 hown5 hg5 hl5)
      have HB5 : Hid (Below w.heap.size w w5) := Lib.hid (HB3.out.trans hb5)
      clear hown5 hg5 hb5 hl5 HP3 HB3 HX HL HS
      go_wp2_with fail
      go_roundw
      case rel => exact ⟨k + 1, by omega, by go_num, ⟨_, HP5⟩, HB5⟩
      case measure => simp [intOf]; omega
    · obtain rfl : k = n := by omega
      obtain ⟨A, c, rfl, hgot⟩ := HP.out.got h0
      have HG := Lib.hid hgot
      clear HP hgot
      go_wp2_with fail
      go_ret
      exact ⟨A, c, rfl, HG, HB⟩
end Go.Proofs.Ythkiajighmhdoaa
