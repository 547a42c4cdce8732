/-
  Data Matrix placement, walked: DMMap. No condition beyond the bounds that each theorem states.
-/
import Derived.Test.YtfnfikmijkeimaaRDA
import Derived.Test.YtfnfikmijkeimaaCPM
import Derived.Deep.DeepCutAuto
namespace Go.Proofs.Ytfnfikmijkeimaa
open Go.RowKit Go.Qz Go.Qz.RD
set_option linter.unusedVariables false

theorem Try.infoRowJ : (Try.prog.info? 53).map (fun i => (i.zero, i.size, i.bytes)) = some (some (.slice none 0 0), 1, 24) := by kernel_rfl
theorem Try.infoJ : (Try.prog.info? 3).map (fun i => (i.zero, i.size, i.bytes)) = some (some (.int .i64 0), 1, 8) := by kernel_rfl
/-- The headers of the first k rows. -/
def heads (bl : Nat → Nat) (C k : Nat) : List Value := (List.range k).map fun r => .slice (some ⟨bl r, 0, none⟩) C C
theorem heads_succ (bl : Nat → Nat) (C k : Nat) : heads bl C (k + 1) = heads bl C k ++ [.slice (some ⟨bl k, 0, none⟩) C C] := by
  unfold heads; rw [List.range_succ, List.map_append]; rfl
theorem heads_at (bl : Nat → Nat) (C k r : Nat) (h : r < k) : (heads bl C k)[r]? = some (.slice (some ⟨bl r, 0, none⟩) C C) := by simp [heads, h]
theorem heads_congr {bl bl' : Nat → Nat} {C k : Nat} (h : ∀ r, r < k → bl r = bl' r) : heads bl C k = heads bl' C k :=
  List.map_congr_left fun r hr => by rw [h r (List.mem_range.1 hr)]
/-- The rows of a placement so far. -/
structure PLk (w : World) (E R C k : Nat) (v : Value) (bl : Nat → Nat) : Prop where
  hp : Arr w 57 E [.int .i64 R, .int .i64 C, .int .i64 0, v]
  own : w.ownsRow (E + 1) 53 1 v k (heads bl C k)
  row : ∀ r, r < k → Arr w 3 (bl r) (rowV (fun _ => .int .i64 (-1)) C)
  lo : ∀ r, r < k → E < bl r
  inj : ∀ r s, r < k → s < k → bl r = bl s → r = s
  nv : ∀ r, r < k → v.ownBlock ≠ some (bl r)
theorem PLk.below {w w' : World} {E R C k : Nat} {v : Value} {bl : Nat → Nat} (h : PLk w E R C k v bl) (hb : Below w.heap.size w w') : PLk w' E R C k v bl :=
  ⟨h.hp.below hb h.hp.lt, own_below h.own hb, fun r hr => (h.row r hr).below hb (h.row r hr).lt, h.lo, h.inj, h.nv⟩
/-- A new block is written: the rows so far stay. -/
theorem PLk.fresh {w W w' : World} {E R C k : Nat} {v : Value} {bl : Nat → Nat} (h : PLk w E R C k v bl) (h1 : Below w.heap.size w W) (hm : Mod (· = w.heap.size) W w') : PLk w' E R C k v bl :=
  h.below ⟨hm.os.trans h1.os, hm.tape.trans h1.tape, hm.output.trans h1.output, Nat.le_trans h1.size hm.size, fun i hi => (hm.block i (Nat.lt_of_lt_of_le hi h1.size) (by omega)).trans (h1.block i hi)⟩
theorem PLk.push {w w' : World} {E R C k : Nat} {v v' : Value} {bl : Nat → Nat} (h : PLk w E R C k v bl) {B : Nat} (hB : Arr w 3 B (rowV (fun _ => .int .i64 (-1)) C)) (h0 : E < B) (h1 : ∀ r, r < k → bl r ≠ B) (h2 : v.ownBlock ≠ some B)
    (hown : w'.ownsRow (E + 1) 53 1 v' (k + 1) (heads bl C k ++ [.slice (some ⟨B, 0, none⟩) C C])) (hg : w.grownBy w' v.ownBlock) (hl : v'.ownBlock = v.ownBlock ∨ v'.ownBlock = some (w.heap.size + 1)) :
    PLk (w'.setCell ⟨E, 3, none⟩ v') E R C (k + 1) v' (fun r => if r = k then B else bl r) := by
  have hm : Mod (fun b => v.ownBlock = some b) w w' := Mod.of_grown hg
  have hs := Mod.set1 w' E 3 v'
  have hE : ¬ v.ownBlock = some E := fun e => by have := (h.own.lt E e).1; omega
  refine ⟨?_, ?_, fun r hr => ?_, fun r hr => ?_, fun r s hr hs' e => ?_, fun r hr => ?_⟩
  · exact (h.hp.mod hm hE).set_ 3 v'
  · have := own_mod hown hs (fun b hb e => by have := (hown.lt b hb).1; omega)
    rw [heads_succ, if_pos rfl, ← heads_congr (bl := bl) (fun r hr => (if_neg (by omega)).symm)]
    exact this
  · by_cases e : r = k
    · subst e
      rw [if_pos rfl]
      exact (hB.mod hm h2).mod hs (by omega)
    · rw [if_neg e]
      exact ((h.row r (by omega)).mod hm (h.nv r (by omega))).mod hs (by have := h.lo r (by omega); omega)
  · split
    · exact h0
    · exact h.lo r (by omega)
  · by_cases e1 : r = k <;> by_cases e2 : s = k
    · omega
    · rw [if_pos e1, if_neg e2] at e; exact absurd e.symm (h1 s (by omega))
    · rw [if_neg e1, if_pos e2] at e; exact absurd e (h1 r (by omega))
    · rw [if_neg e1, if_neg e2] at e; exact h.inj r s (by omega) (by omega) e
  · have hlt : ∀ b, b < w.heap.size → v.ownBlock ≠ some b → v'.ownBlock ≠ some b := fun b hb hn e => by
      rcases hl with hl | hl
      · exact hn (hl ▸ e)
      · rw [hl] at e; injection e with e; omega
    split
    · exact hlt B hB.lt h2
    · exact hlt _ (h.row r (by omega)).lt (h.nv r (by omega))
/-- All rows are there: the placement stands. -/
theorem PLk.done {w : World} {E R C : Nat} {v : Value} {bl : Nat → Nat} (h : PLk w E R C R v bl) (hR : 0 < R) : ∃ hb cap, v = .slice (some ⟨hb, 0, none⟩) R cap ∧ E < hb ∧ PL w E hb R C cap bl 0 (fun _ _ => -1) := by
  obtain ⟨h1, h2⟩ := h.own
  rcases h2 with ⟨_, h2⟩ | ⟨g, cap, cur, rfl, hb, hh, hc, hm, hz, ht⟩
  · omega
  · refine ⟨g, cap, rfl, by omega, ⟨by simpa using h.hp, fun r hr => ?_, h.row, (Array.getElem?_eq_some_iff.1 hh).1, h.inj, fun r hr => by have := h.lo r hr; omega, fun r hr e => h.nv r hr (by rw [e]; rfl), by omega⟩⟩
    have := h.own.cells (g := g) rfl r _ (heads_at bl C R r hr)
    simpa [Addr.add_lit] using this

/-- Where the way stands at the start of a diagonal. -/
def Head (R C row col : Int) : Prop := (R ≤ row ∧ C ≤ col ∧ row ≤ R + 8 ∧ col ≤ C + 8) ∨ ((row + col) % 8 = 4 ∧ row % 2 = 0 ∧ 4 ≤ row ∧ ((col = 0 ∧ row ≤ R + 4) ∨ (row = R + 4 ∧ 0 ≤ col ∧ col ≤ C + 8)))
/-- What has been placed at corners, ahead of a diagonal; behind its corner. -/
def Ahd (R C : Nat) (d : Int) (f : Nat → Nat → Int) : Prop := R % 8 = 6 → C % 8 = 0 → (R : Int) + 6 < d → 0 ≤ f 1 (C - 1)
def Got (R C : Nat) (d : Int) (f : Nat → Nat → Int) : Prop := R % 8 = 6 → (d = R - 2 → (C % 8 = 6 → 0 ≤ f (R - 2) 0 ∧ 0 ≤ f 0 (C - 2)) ∧ (C % 8 = 4 → 0 ≤ f (R - 2) 0)) ∧ (C % 8 = 0 → (R : Int) + 6 ≤ d → 0 ≤ f 1 (C - 1))
theorem Got.mono {R C : Nat} {d : Int} {f g : Nat → Nat → Int} (h : Got R C d f) (m : Mono f g) : Got R C d g := fun h6 => ⟨fun e => ⟨fun c => ⟨m.1 _ _ (((h h6).1 e).1 c).1, m.1 _ _ (((h h6).1 e).1 c).2⟩, fun c => m.1 _ _ (((h h6).1 e).2 c)⟩, fun c hd => m.1 _ _ ((h h6).2 c hd)⟩
theorem Got.of {R C : Nat} {row col : Int} {f g : Nat → Nat → Int} (hd : Head R C row col) (hlt : row < R ∨ col < C) (h : Ahd R C (row + col) f) (m : Mono f g) (z : CZ R C row col g) (hR : 6 ≤ R) (hC : 6 ≤ C) : Got R C (row + col) g := fun h6 => by
  unfold Head at hd
  refine ⟨fun e => ?_, fun c0 hge => ?_⟩
  · have e1 : row = (R : Int) - 2 ∧ col = 0 := by omega
    exact ⟨z.1 e1.1 e1.2, z.2.1 e1.1 e1.2⟩
  · by_cases e : (R : Int) + 6 < row + col
    · exact m.1 _ _ (h h6 c0 e)
    · exact z.2.2 (by omega) (by omega) c0
theorem Got.ahd {R C : Nat} {d d' : Int} {f : Nat → Nat → Int} (h : Got R C d f) (hd : R % 8 = 6 → (R : Int) + 6 < d' → (R : Int) + 6 ≤ d) : Ahd R C d' f := fun h6 c0 e => (h h6).2 c0 (hd h6 e)
theorem Got.anch_up {R C : Nat} {d r c : Int} {f : Nat → Nat → Int} (hc : Cls R C) (h : Got R C d f) (e : r + c = d) (h2 : r % 2 = 0) (hf : f r.toNat c.toNat < 0) : ¬ Anch R C r c := by
  rintro ⟨h6, h7⟩
  have hk := hc.k
  have h66 : R % 8 = 6 := by omega
  have g := (h h66).1
  rcases h7 with ⟨a1, a2, a3⟩ | ⟨a1, a2, a3⟩ | ⟨a1, a2, a3⟩
  · have ed : d = (R : Int) - 2 := by omega
    have e1 : r.toNat = R - 2 := by omega
    have e2 : c.toNat = 0 := by omega
    rw [e1, e2] at hf
    by_cases c6 : C % 8 = 6
    · have := ((g ed).1 c6).1; omega
    · have := (g ed).2 (by omega); omega
  · have ed : d = (R : Int) - 2 := by omega
    have e1 : r.toNat = 0 := by omega
    have e2 : c.toNat = C - 2 := by omega
    rw [e1, e2] at hf
    have := ((g ed).1 (by omega)).2; omega
  · omega
theorem Got.anch_down {R C : Nat} {d r c : Int} {f : Nat → Nat → Int} (hc : Cls R C) (h : Got R C d f) (e : r + c = d + 4) (h2 : r % 2 = 1) (hf : f r.toNat c.toNat < 0) : ¬ Anch R C r c := by
  rintro ⟨h6, h7⟩
  have hk := hc.k
  have h66 : R % 8 = 6 := by omega
  have g := (h h66).2
  rcases h7 with ⟨a1, a2, a3⟩ | ⟨a1, a2, a3⟩ | ⟨a1, a2, a3⟩
  · omega
  · omega
  · have e1 : r.toNat = 1 := by omega
    have e2 : c.toNat = C - 1 := by omega
    rw [e1, e2] at hf
    have := g (by omega) (by omega); omega
/-- The second diagonal of a turn: where it stands, and whether it goes on. -/
def Dn (R C : Int) (b : Bool) (r c : Int) : Prop :=
  (b = true ∧ (r = -1 ∨ C + 2 ≤ c) ∧ -1 ≤ r ∧ r ≤ R + 3 ∧ 1 ≤ c ∧ c ≤ C + 4) ∨ (b = decide (r < R ∧ 0 ≤ c) ∧ -1 ≤ c ∧ 1 ≤ r ∧ c ≤ C + 2 ∧ (r ≤ R + 1 ∨ (C ≤ c ∧ r ≤ R + 5)))
/-- The rows of a placement: headers in block hb, row r in block bl r. -/
def MapRows (w : World) (hb R C cap : Nat) (bl : Nat → Nat) (f : Nat → Nat → Int) : Prop :=
  R ≤ cap ∧ hb < w.heap.size ∧ (∀ r, r < R → w.cell? ⟨hb, r, none⟩ = some (.slice (some ⟨bl r, 0, none⟩) C C)) ∧ (∀ r, r < R → Arr w 3 (bl r) (rowV (fun c => .int .i64 (f r c)) C)) ∧ Bd f
def MapPost (R C : Nat) (w : World) (e : Ending) (w' : World) : Prop := ∃ hb cap bl f, e = .returned (.slice (some ⟨hb, 0, none⟩) R cap) ∧ Hid (MapRows w' hb R C cap bl f) ∧ Below w.heap.size w w'
/-- What holds on the way: a placement, what has been placed, how many words at most. -/
def Way5 (w W : World) (E hb R C cap : Nat) (bl : Nat → Nat) (f : Nat → Nat → Int) (n m : Nat) : Prop := PL W E hb R C cap bl n f ∧ Bd f ∧ n ≤ m ∧ Mod (WS E R bl) w W
theorem Way5.put {w W W' : World} {E hb R C cap n n' m k : Nat} {bl : Nat → Nat} {f f' : Nat → Nat → Int} (h : Way5 w W E hb R C cap bl f n m) (h1 : PL W' E hb R C cap bl n' f') (h2 : Mono f f') (h3 : n ≤ n' ∧ n' ≤ n + 1) (h4 : Mod (WS E R bl) W W') (hk : m + 1 ≤ k) : Way5 w W' E hb R C cap bl f' n' k :=
  ⟨h1, h2.2 h.2.1, by have := h.2.2.1; omega, h.2.2.2.trans h4⟩
theorem Way5.more {w W : World} {E hb R C cap n m k : Nat} {bl : Nat → Nat} {f : Nat → Nat → Int} (h : Way5 w W E hb R C cap bl f n m) (hk : m ≤ k) : Way5 w W E hb R C cap bl f n k := ⟨h.1, h.2.1, by have := h.2.2.1; omega, h.2.2.2⟩

set_option maxRecDepth 100000 in
set_option maxHeartbeats 16000000 in
theorem dmMap (R C : Nat) (hc : Cls R C) (w : World) : Calls Try.prog 18 #[.int .i64 R, .int .i64 C] w (MapPost R C w) := by
  have r0 : 6 ≤ R := by have := hc.r0; omega
  have r1 : R ≤ 132 := by have := hc.r1; omega
  have c0 : 8 ≤ C := by have := hc.c0; omega
  have c1 : C ≤ 132 := by have := hc.c1; omega
  have HC := Lib.hid hc
  have HRE : Hid (R % 2 = 0 ∧ C % 2 = 0) := Lib.hid (by have := hc.k; omega)
  have hmk := fun X => run_make1 (P := Try.prog) 53 3 (.int .i64 0) 8 Try.underlying53 Try.infoJ rfl (by decide) C (by omega) .i64 .i64 C rfl X
  obtain ⟨E, hE⟩ : ∃ E, E = w.heap.size := ⟨_, rfl⟩
  have hA := Arr.new w 57 [.int .i64 R, .int .i64 C, .int .i64 0, .slice none 0 0]
  have hb0 : Below w.heap.size w (w.alloc (.cells #[.int .i64 R, .int .i64 C, .int .i64 0, .slice none 0 0] 57)) := (Below.refl _ _).alloc (Nat.le_refl _) _
  clear hc
  go_enter Try.func18, Try.ntmps18
  go_wp2_with fail
  rw [← hE] at hA hb0 ⊢
  obtain ⟨W0, hW0⟩ : ∃ W0, W0 = w.alloc (.cells #[.int .i64 R, .int .i64 C, .int .i64 0, .slice none 0 0] 57) := ⟨_, rfl⟩
  have hA' : Arr W0 57 E [.int .i64 R, .int .i64 C, .int .i64 0, .slice none 0 0] := by rw [hW0]; exact hA
  rw [← hW0] at hb0 ⊢
  have HA0 : Hid (PLk W0 E R C 0 (.slice none 0 0) (fun _ => 0)) := Lib.hid ⟨hA', World.ownsRow_nil _ _ _ _, fun r hr => by omega, fun r hr => by omega, fun r s hr => by omega, fun r hr => by omega⟩
  have HB0 := Lib.hid hb0
  have HE := Lib.hid hE
  clear hA hA' hb0 hW0 hE
  go_loopw [17] (fun i wr => ∃ (k : Nat) (v : Value) (bl : Nat → Nat), k ≤ R ∧ i = .int .i64 k ∧ Hid (PLk wr E R C k v bl) ∧ Hid (Below E w wr)) (fun i _ => R - (intOf i).toNat)
  case atStart => exact ⟨0, _, _, by omega, rfl, HA0, HB0⟩
  case round =>
    obtain ⟨wo, hwo⟩ : ∃ wo, wo = wr := ⟨_, rfl⟩
    rw [← hwo] at hrel ⊢
    clear hwo
    obtain ⟨k, v, bl, hk, rfl, HP, HB⟩ := hrel
    clear HA0 HB0
    by_cases hlt : k < R
    · have hk0 : (0 : Int) ≤ (k : Int) := by omega
      have hk1 : (k : Int) < (R : Int) := by omega
      obtain ⟨B, hB⟩ : ∃ B, B = wo.heap.size := ⟨_, rfl⟩
      obtain ⟨W1, hW1⟩ : ∃ W1, W1 = wo.alloc (.cells (zeros C (.int .i64 0)) 3) := ⟨_, rfl⟩
      have hb1 : Below wo.heap.size wo W1 := by rw [hW1]; exact (Below.refl _ _).alloc (Nat.le_refl _) _
      have ha1 : Arr W1 3 B (rowV (fun c => .int .i64 (if c < 0 then -1 else 0)) C) := by
        have e : rowV (fun c => Value.int .i64 (if c < 0 then -1 else 0)) C = List.replicate C (.int .i64 0) := by
          rw [← rowV_const]; exact rowV_congr (fun j hj => by simp)
        rw [hW1, hB, e]; exact Arr.new wo _ _
      have HB1 := Lib.hid hb1
      have HA1 := Lib.hid ha1
      have HBw : Hid (E < B) := Lib.hid (by have := HP.out.hp.lt; omega)
      have HNB : Hid ((∀ r, r < k → bl r < B) ∧ v.ownBlock ≠ some B) := Lib.hid ⟨fun r hr => by have := (HP.out.row r hr).lt; omega, fun e => by have := (HP.out.own.lt B e).2; omega⟩
      have HBE := Lib.hid hB
      have HW1 := Lib.hid hW1
      clear hb1 ha1 hW1
      go_wp2_with fail
      rw [← hB, ← HW1.out]
      clear hB
      go_loopw [23] (fun i wr' => ∃ j : Nat, j ≤ C ∧ i = .int .i64 j ∧ Hid (Arr wr' 3 B (rowV (fun c => .int .i64 (if c < j then -1 else 0)) C)) ∧ Hid (Mod (· = B) W1 wr')) (fun i _ => C - (intOf i).toNat)
      case atStart => exact ⟨0, by omega, rfl, HA1, Lib.hid (Mod.refl _)⟩
      case round =>
        obtain ⟨wu, hwu⟩ : ∃ wu, wu = wr := ⟨_, rfl⟩
        rw [← hwu] at hrel ⊢
        clear hwu
        obtain ⟨j, hj, rfl, HA, HM⟩ := hrel
        by_cases hlt2 : j < C
        · have hj0 : (0 : Int) ≤ (j : Int) := by omega
          have hj1 : (j : Int) < (C : Int) := by omega
          have cj := HA.out.cell? j
          rw [rowV_get _ _ _ hlt2] at cj
          have fj := HA.out.free j
          have HA2 : Hid (Arr (wu.setCell ⟨B, j, none⟩ (.int .i64 (-1))) 3 B (rowV (fun c => .int .i64 (if c < j + 1 then -1 else 0)) C)) := Lib.hid (by
            have := HA.out.set_ j (.int .i64 (-1))
            rw [rowV_set (g := fun c => .int .i64 (if c < j + 1 then -1 else 0)) (fun i hi => by
              by_cases e : i = j
              · subst e; rw [if_pos rfl, if_pos (by omega)]
              · rw [if_neg e]; by_cases e2 : i < j
                · rw [if_pos e2, if_pos (by omega)]
                · rw [if_neg e2, if_neg (by omega)])] at this
            exact this)
          have HM2 : Hid (Mod (· = B) W1 (wu.setCell ⟨B, j, none⟩ (.int .i64 (-1)))) := Lib.hid (HM.out.trans (Mod.set1 wu B j _))
          clear HA HM
          go_wp2_with fail
          go_roundw
          case rel => exact ⟨j + 1, by omega, by go_num, HA2, HM2⟩
          case measure => simp [intOf]; omega
        · obtain rfl : j = C := by omega
          have HP2 : Hid (PLk wu E R j k v bl) := Lib.hid (HP.out.fresh HB1.out (by rw [← HBE.out]; exact HM.out))
          have HBu : Hid (Below E w wu) := Lib.hid (HB.out.trans ⟨HM.out.os.trans HB1.out.os, HM.out.tape.trans HB1.out.tape, HM.out.output.trans HB1.out.output, Nat.le_trans HB1.out.size HM.out.size, fun i hi => (HM.out.block i (by have := HB1.out.size; have := HP.out.hp.lt; omega) (by have := HP.out.hp.lt; have := HBE.out; omega)).trans (HB1.out.block i (by have := HP.out.hp.lt; omega))⟩)
          have c3 := HP2.out.hp.cell? 3
          simp only [List.getElem?_cons_zero, List.getElem?_cons_succ] at c3
          have hElt := HP2.out.hp.lt
          have HEL := Lib.hid hElt
          have HC3 := Lib.hid c3
          have HF3 := Lib.hid (HP2.out.hp.free 3)
          clear HB HP hElt
          have HSZ : Hid (E + 1 ≤ wu.heap.size) := Lib.hid (by have := HEL.out; omega)
          have HPP : Hid (∀ (v' : Value) (w' : World), w'.ownsRow (E + 1) 53 1 v' (k + 1) (heads bl j k ++ [.slice (some ⟨B, 0, none⟩) j j]) → wu.grownBy w' v.ownBlock → (v'.ownBlock = v.ownBlock ∨ v'.ownBlock = some (wu.heap.size + 1)) →
              Hid (PLk (w'.setCell ⟨E, 3, none⟩ v') E R j (k + 1) v' (fun r => if r = k then B else bl r)) ∧ Hid (Below E w (w'.setCell ⟨E, 3, none⟩ v')) ∧ w'.frozen? ⟨E, 3, none⟩ = false ∧ w'.cell? ⟨E, 3, none⟩ = some v ∧ ∃ A cp, v' = .slice A (k + 1) cp) := Lib.hid (fun v' w' hown hg hl => by
            have hBa : Arr wu 3 B (rowV (fun _ => .int .i64 (-1)) j) := by
              rw [rowV_congr (g := fun c => .int .i64 (if c < j then -1 else 0)) (fun c hc => by rw [if_pos hc])]
              exact HA.out
            have hEv : v.ownBlock ≠ some E := fun e => by have := (HP2.out.own.lt E e).1; omega
            have hbl : E < B := by have := HEL.out; have := HBE.out; have := HP2.out; have := HBw.out; omega
            refine ⟨Lib.hid (HP2.out.push hBa hbl (fun r hr => ?_) ?_ hown hg hl), Lib.hid ?_, ?_, ?_, ?_⟩
            · have := HNB.out.1 r hr; omega
            · exact HNB.out.2
            · exact (HBu.out.grown hg (by have := HSZ.out; omega) (fun b hb => by have := (HP2.out.own.lt b hb).1; omega)).setCell (p := ⟨E, 3, none⟩) (Nat.le_refl _) _
            · rw [World.frozen?_of_block (w := wu) (hg.block E (HP2.out.hp.lt) (fun e => hEv e.symm))]; exact HF3.out
            · exact hg.cell HC3.out (fun e => hEv e.symm)
            · obtain ⟨A, c, e, _⟩ := Rd.of_own hown
              exact ⟨A, c, e⟩)
          have hc3 := HC3.out
          have hfz := HF3.out
          clear HA HM
          go_wp2_with (at_builtin; refine wpList_pushAt _ _ 51 (E + 1) 53 (.slice none 0 0) 24 v k (heads bl j k) (.slice (some ⟨B, 0, none⟩) j j) rfl rfl rfl rfl Try.underlying51 Try.infoRowJ rfl rfl (by decide) HP2.out.own (by omega) HSZ.out ?_)
          intro v' w' hown' hg' hb' hl'
          obtain ⟨g1, g2, g3, g4, A', cp', rfl⟩ := HPP.out v' w' hown' hg' hl'
          clear hown' hg' hb' hl' hc3 hfz HPP
          go_wp2_with fail
          go_roundw
          case rel => exact ⟨k + 1, _, _, by omega, by go_num, g1, g2⟩
          case measure => simp [intOf]; omega
    · obtain rfl : k = R := by omega
      obtain ⟨hb, cap, rfl, hEh, hPL⟩ := HP.out.done (by omega)
      have HS0 : Hid (Way5 wo wo E hb k C cap bl (fun _ _ => -1) 0 0) := Lib.hid ⟨hPL, fun _ _ => ⟨by simp, by simp⟩, Nat.le_refl _, Mod.refl _⟩
      have HAH0 : Hid (Ahd k C (4 + 0) (fun _ _ => -1)) := Lib.hid (fun _ _ h => by omega)
      have HH0 : Hid (Head k C 4 0) := Lib.hid (.inr ⟨by omega, by omega, by omega, .inl ⟨rfl, by omega⟩⟩)
      have HCP : Hid (k ≤ cap) := Lib.hid (by
        obtain ⟨_, h2⟩ := HP.out.own
        rcases h2 with ⟨h2, _⟩ | ⟨g, cp, cur, e, _, _, h3, _⟩
        · cases h2
        · injection e with _ _ e3; omega)
      have HWS : Hid (∀ b, WS E k bl b → E ≤ b) := Lib.hid (fun b hb' => by
        rcases hb' with e | ⟨r, hr, e⟩
        · omega
        · have := HP.out.lo r hr; omega)
      have HEW : Hid (E ≤ wo.heap.size) := Lib.hid (by have := HP.out.hp.lt; omega)
      have hz1 : (0 : Int) ≤ (k : Int) := by omega
      clear hPL HP hEh hmk hlt
      go_wp2_with fail
      go_loopw [8, 9] (fun r c wr => ∃ (row col : Int) (f : Nat → Nat → Int) (n m : Nat), r = .int .i64 row ∧ c = .int .i64 col ∧ Hid (Head k C row col) ∧ Hid (Way5 wo wr E hb k C cap bl f n m) ∧ Hid (Ahd k C (row + col) f) ∧ Hid ((m : Int) ≤ 100 * (row + col))) (fun r c _ => (2000 - (intOf r + intOf c)).toNat)
      case atStart => exact ⟨4, 0, _, 0, 0, rfl, rfl, HH0, HS0, HAH0, Lib.hid (by omega)⟩
      case round =>
        obtain ⟨w1, hw1⟩ : ∃ w1, w1 = wr := ⟨_, rfl⟩
        rw [← hw1] at hrel ⊢
        clear hw1
        obtain ⟨row, col, f, n, m, rfl, rfl, HH, HS, HAH, HM2⟩ := hrel
        clear HH0 HS0 HAH0
        go_upto_region 13 with (fail)
        go_cut [48] (fun b wx => ∃ bb : Bool, w1 = wx ∧ b = .bool bb ∧ Hid (bb = decide (row < k ∨ col < C)))
        case first =>
          by_cases h1 : row < k
          · have q1 : decide (row < (k : Int)) = true := by simpa using h1
            go_wp2_with fail
            go_meet
            case rel => exact ⟨true, rfl, rfl, Lib.hid (by simp [h1])⟩
          · have q1 : decide (row < (k : Int)) = false := by simpa using h1
            obtain ⟨bb, hbb⟩ : ∃ bb, bb = decide (col < (C : Int)) := ⟨_, rfl⟩
            have q2 : decide (col < (C : Int)) = bb := hbb.symm
            have HBB := Lib.hid hbb
            clear hbb
            go_wp2_with fail
            go_meet
            case rel => exact ⟨bb, rfl, rfl, Lib.hid (by rw [HBB.out]; apply decide_eq_decide.2; omega)⟩
        case rest =>
          obtain ⟨bb, rfl, rfl, HBB⟩ := hcut
          cases bb
          · have HE2 := Lib.hid (HS.out.2.2.2.below (B := E) HEW.out (fun b hb' => HWS.out b hb'))
            have c3 := HS.out.1.c3
            have HQ : Hid (MapRows w1 hb k C cap bl f) := Lib.hid ⟨HCP.out, HS.out.1.hlt, HS.out.1.hd, HS.out.1.row, HS.out.2.1⟩
            clear HBB
            go_wp2_with fail
            go_ret
            exact ⟨hb, cap, bl, f, rfl, HQ, by rw [← HE.out]; exact HB.out.trans HE2.out⟩
          · have hgo : row < k ∨ col < C := by have := HBB.out; simpa using this
            have hbd : 0 ≤ row ∧ 0 ≤ col ∧ row < 1000 ∧ col < 1000 ∧ (row + col) % 8 = 4 ∧ row % 2 = 0 ∧ row ≤ k + 4 ∧ col < C ∧ 4 ≤ row := by
              have := HH.out; unfold Head at this; omega
            have HCO := Lib.hid (dm_corners E hb k C cap n bl f row col hbd.1 (by omega) hbd.2.1 (by omega) (by omega) (by omega) (by omega) (by omega) (by have h3 := HS.out.2.2.1; have h4 := HM2.out; omega) w1 HS.out.1)
            have hpo : ∀ e w', PutPost w1 E hb k C cap bl n (n + 1) f (CZ k C row col) e w' → e = .returned (.tuple #[]) ∧ ∃ f' n', Hid (Way5 wo w' E hb k C cap bl f' n' (m + 1)) ∧ Hid (Got k C (row + col) f') := by
              rintro e w' ⟨rfl, f', n', g1, g2, g3, g4, g5⟩
              exact ⟨rfl, f', n', Lib.hid (HS.out.put g1.out g2.out g4.out g5.out (Nat.le_refl _)), Lib.hid (Got.of HH.out hgo HAH.out g2.out g3.out (by omega) (by omega))⟩
            have HPO := Lib.hid hpo
            have HD := Lib.hid hbd
            clear hpo hgo hbd HBB
            go_wp2_with fail
            refine HCO.out.mono ?_
            intro e w2 hpost
            obtain ⟨rfl, f2, n2, HS2, HGT⟩ := HPO.out _ _ hpost
            clear hpost HPO HCO HAH HS HH
            go_wp2_with fail
            go_loopw [8, 9, 10] (fun r c b wr => ∃ (rr cc : Int) (g : Nat → Nat → Int) (q z : Nat) (bb : Bool), r = .int .i64 rr ∧ c = .int .i64 cc ∧ b = .bool bb ∧ Hid (bb = decide (0 ≤ rr ∧ cc < C) ∧ rr + cc = row + col ∧ rr % 2 = 0 ∧ -2 ≤ rr ∧ rr ≤ k + 4 ∧ 0 ≤ cc ∧ cc ≤ C ∧ (bb = true ∨ rr ≤ k + 2)) ∧ Hid (Way5 wo wr E hb k C cap bl g q z) ∧ Hid (Got k C (row + col) g) ∧ Hid ((z : Int) ≤ m + 1 + cc)) (fun r c b _ => (400 - intOf c).toNat)
            case atStart => exact ⟨row, col, f2, n2, m + 1, true, rfl, rfl, rfl, Lib.hid (by have := HD.out; have := HRE.out; refine ⟨by simp; omega, rfl, by omega, by omega, by omega, by omega, by omega, .inl rfl⟩), HS2, HGT, Lib.hid (by have := HD.out; omega)⟩
            case round =>
              obtain ⟨wa, hwa⟩ : ∃ wa, wa = wr := ⟨_, rfl⟩
              rw [← hwa] at hrel ⊢
              clear hwa
              obtain ⟨rr, cc, g, q, z, bb, rfl, rfl, rfl, HR4, HSg, HGg, HZ⟩ := hrel
              clear HS2 HGT
              cases bb
              · have hb4 := HR4.out
                have hb5 : ¬ (0 ≤ rr ∧ cc < C) := by simpa using hb4.1.symm
                have hb7 : rr ≤ k + 2 := hb4.2.2.2.2.2.2.2.resolve_left (by decide)
                obtain ⟨r1, hr1⟩ : ∃ r1, r1 = rr + 1 := ⟨_, rfl⟩
                obtain ⟨c1, hc1⟩ : ∃ c1, c1 = cc + 3 := ⟨_, rfl⟩
                have w1' : IntKind.i64.wrap (rr + 1) = r1 := by rw [hr1, IntKind.wrap_i64]; omega
                have w2' : IntKind.i64.wrap (cc + 3) = c1 := by rw [hc1, IntKind.wrap_i64]; omega
                have hev := HRE.out
                have hd := HD.out
                have HD0 : Hid (Dn k C true r1 c1 ∧ r1 + c1 = row + col + 4 ∧ r1 % 2 = 1) := Lib.hid ⟨.inl ⟨rfl, by omega, by omega, by omega, by omega, by omega⟩, by omega, by omega⟩
                have HZ0 : Hid ((z : Int) ≤ m + 200 + r1) := Lib.hid (by have := HZ.out; omega)
                clear hb4 hb5 hb7 hr1 hc1 hev hd HR4 HZ
                go_wp2_with fail
                go_loopw [8, 9, 11] (fun r c b wr => ∃ (rr cc : Int) (g : Nat → Nat → Int) (q z : Nat) (bb : Bool), r = .int .i64 rr ∧ c = .int .i64 cc ∧ b = .bool bb ∧ Hid (Dn k C bb rr cc ∧ rr + cc = row + col + 4 ∧ rr % 2 = 1) ∧ Hid (Way5 wo wr E hb k C cap bl g q z) ∧ Hid (Got k C (row + col) g) ∧ Hid ((z : Int) ≤ m + 200 + rr)) (fun r c b _ => (400 + intOf c).toNat)
                case atStart => exact ⟨r1, c1, g, q, z, true, rfl, rfl, rfl, HD0, HSg, HGg, HZ0⟩
                case round =>
                  obtain ⟨wb, hwb⟩ : ∃ wb, wb = wr := ⟨_, rfl⟩
                  rw [← hwb] at hrel ⊢
                  clear hwb HD0 HZ0 HSg HGg
                  obtain ⟨rr, cc, g, q, z, bb, rfl, rfl, rfl, HR4, HSg, HGg, HZ⟩ := hrel
                  cases bb
                  · have hb4 := HR4.out
                    have hd := HD.out
                    have hev := HRE.out
                    have hb6 : Head k C (rr + 3) (cc + 1) ∧ rr ≤ 200 ∧ cc ≤ 200 ∧ -1 ≤ rr ∧ -1 ≤ cc := by
                      obtain ⟨h1, h2, h3⟩ := hb4
                      rcases h1 with ⟨h1, _⟩ | ⟨h1, h4, h5, h6, h7⟩
                      · cases h1
                      · have h8 : ¬ (rr < k ∧ 0 ≤ cc) := by simpa using h1.symm
                        refine ⟨?_, by omega, by omega, by omega, by omega⟩
                        unfold Head
                        omega
                    obtain ⟨r3, hr3⟩ : ∃ r3, r3 = rr + 3 := ⟨_, rfl⟩
                    obtain ⟨c3, hc3⟩ : ∃ c3, c3 = cc + 1 := ⟨_, rfl⟩
                    have w1' : IntKind.i64.wrap (rr + 3) = r3 := by rw [hr3, IntKind.wrap_i64]; omega
                    have w2' : IntKind.i64.wrap (cc + 1) = c3 := by rw [hc3, IntKind.wrap_i64]; omega
                    have HH3 : Hid (Head k C r3 c3) := Lib.hid (by rw [hr3, hc3]; exact hb6.1)
                    have HA3 : Hid (Ahd k C (r3 + c3) g) := Lib.hid (HGg.out.ahd (by omega))
                    have HM3 : Hid ((z : Int) ≤ 100 * (r3 + c3)) := Lib.hid (by have := HZ.out; have := HM2.out; omega)
                    have HME : Hid (row + col < r3 + c3 ∧ r3 + c3 < 1000) := Lib.hid (by omega)
                    clear hb4 hd hev hb6 hr3 hc3 HR4 HZ HGg
                    go_wp2_with fail
                    go_roundw
                    case rel => exact ⟨r3, c3, g, q, z, rfl, rfl, HH3, HSg, HA3, HM3⟩
                    case measure => have := HME.out; simp [intOf]; omega
                  · have hd := HD.out
                    have hev := HRE.out
                    have hb4 := HR4.out
                    have hbn : -1 ≤ rr ∧ rr ≤ k + 3 ∧ 0 ≤ cc ∧ cc ≤ C + 4 ∧ (rr < 0 ∨ C ≤ cc ∨ rr < k) := by
                      obtain ⟨h1, h2, h3⟩ := hb4
                      rcases h1 with ⟨_, h1⟩ | ⟨h1, h4, h5, h6, h7⟩
                      · omega
                      · have h8 : (rr < k ∧ 0 ≤ cc) := by simpa using h1.symm
                        omega
                    obtain ⟨x0, x1, x2, x3, x4⟩ := hbn
                    clear hb4 hev hd
                    go_upto_region 25 with (fail)
                    go_cut [120] (fun b wx => ∃ bb : Bool, wb = wx ∧ b = .bool bb ∧ Hid (bb = true → ∃ rn cn : Nat, rr = rn ∧ cc = cn ∧ rn < k ∧ cn < C ∧ g rn cn < 0))
                    case first =>
                      by_cases h1 : 0 ≤ rr
                      · have q1 : decide (0 ≤ rr) = true := by simpa using h1
                        by_cases h2 : cc < C
                        · have q2 : decide (cc < (C : Int)) = true := by simpa using h2
                          obtain ⟨rn, hrn⟩ : ∃ rn : Nat, rr = rn := ⟨rr.toNat, by omega⟩
                          obtain ⟨cn, hcn⟩ : ∃ cn : Nat, cc = cn := ⟨cc.toNat, by omega⟩
                          subst hrn hcn
                          have h3 : rn < k := by omega
                          have h4 : cn < C := by omega
                          obtain ⟨bb, hbb⟩ : ∃ bb, bb = decide (g rn cn < 0) := ⟨_, rfl⟩
                          have q3 : decide (g rn cn < 0) = bb := hbb.symm
                          have HBB := Lib.hid hbb
                          have p3 := HSg.out.1.c3
                          have ph := HSg.out.1.hd rn h3
                          have pc := HSg.out.1.at_ rn cn h3 h4
                          have h5 : (rn : Int) < (k : Int) := by omega
                          clear hbb
                          go_wp2_with fail
                          go_meet
                          case rel => exact ⟨bb, rfl, rfl, Lib.hid (fun e => ⟨rn, cn, rfl, rfl, h3, h4, by have := HBB.out; rw [e] at this; simpa using this⟩)⟩
                        · have q2 : decide (cc < (C : Int)) = false := by simpa using h2
                          go_wp2_with fail
                          go_meet
                          case rel => exact ⟨false, rfl, rfl, Lib.hid (fun e => by cases e)⟩
                      · have q1 : decide (0 ≤ rr) = false := by simpa using h1
                        go_wp2_with fail
                        go_meet
                        case rel => exact ⟨false, rfl, rfl, Lib.hid (fun e => by cases e)⟩
                    case rest =>
                      obtain ⟨bb, rfl, rfl, HBB⟩ := hcut
                      go_upto_if 120 with (fail)
                      go_cut [] (fun wx => ∃ g' q', Hid (Way5 wo wx E hb k C cap bl g' q' (z + 1)) ∧ Hid (Got k C (row + col) g'))
                      case first =>
                        cases bb
                        · go_wp2_with fail
                          go_meet
                          case rel => exact ⟨g, q, Lib.hid (HSg.out.more (by omega)), HGg⟩
                        · obtain ⟨rn, cn, rfl, rfl, h3, h4, h5⟩ := HBB.out rfl
                          have hn4 := HGg.out.anch_down (r := rn) (c := cn) HC.out HR4.out.2.1 HR4.out.2.2 (by simpa using h5)
                          have hway : RD.Way (rn : Int) (cn : Int) := .inr (by have := HD.out; have := HR4.out.2; omega)
                          have hy0 : (0 : Int) ≤ (rn : Int) := by omega
                          have HUT := Lib.hid (dm_utah E hb k C cap q bl g rn cn hy0 (by omega) x2 (by omega) (fun i j hij => in_of k C rn cn HC.out hy0 (by omega) x2 (by omega) hway hn4 i j hij) r0 (by omega) (by omega) (by have h3 := HSg.out.2.2.1; have h4 := HM2.out; have h5 := HZ.out; have := HD.out; omega) wb HSg.out.1)
                          clear hn4 hway h5 HBB
                          go_wp2_with fail
                          refine HUT.out.mono ?_
                          rintro e w3 ⟨rfl, g', q', g1, g2, _, g4, g5⟩
                          have HS3 := Lib.hid (HSg.out.put g1.out g2.out g4.out g5.out (Nat.le_refl _))
                          have HG3 := Lib.hid (HGg.out.mono g2.out)
                          clear g1 g2 g4 g5 HUT HSg HGg
                          go_wp2_with fail
                          go_meet
                          case rel => exact ⟨g', q', HS3, HG3⟩
                      case rest =>
                        obtain ⟨g', q', HS3, HG3⟩ := hcut
                        obtain ⟨r', hr'⟩ : ∃ r', r' = rr + 2 := ⟨_, rfl⟩
                        obtain ⟨c', hc'⟩ : ∃ c', c' = cc - 2 := ⟨_, rfl⟩
                        have w1' : IntKind.i64.wrap (rr + 2) = r' := by rw [hr', IntKind.wrap_i64]; omega
                        have w2' : IntKind.i64.wrap (cc - 2) = c' := by rw [hc', IntKind.wrap_i64]; omega
                        have hev := HRE.out
                        have hd := HD.out
                        have hb4 := HR4.out
                        have HR5 : Hid (∀ bb : Bool, bb = decide (r' < k ∧ 0 ≤ c') → Dn k C bb r' c' ∧ r' + c' = row + col + 4 ∧ r' % 2 = 1) := Lib.hid (fun bb hbb => by
                          obtain ⟨h1, h2, h3⟩ := hb4
                          refine ⟨.inr ⟨hbb, ?_⟩, by omega, by omega⟩
                          rcases h1 with ⟨_, h1⟩ | ⟨h1, h4, h5, h6, h7⟩
                          · omega
                          · have h8 : (rr < k ∧ 0 ≤ cc) := by simpa using h1.symm
                            omega)
                        have HZ5 : Hid (((z + 1 : Nat) : Int) ≤ m + 200 + r') := Lib.hid (by have := HZ.out; omega)
                        have HME : Hid (-2 ≤ c' ∧ cc = c' + 2) := Lib.hid (by omega)
                        clear hr' hc' hev hd hb4 HSg HGg HZ HR4
                        by_cases h1 : r' < k
                        · obtain ⟨bb', hbb⟩ : ∃ bb, bb = decide (0 ≤ c') := ⟨_, rfl⟩
                          have q2 : decide (0 ≤ c') = bb' := hbb.symm
                          have HR6 := Lib.hid (HR5.out bb' (by rw [hbb]; apply decide_eq_decide.2; omega))
                          have q1 : decide (r' < (k : Int)) = true := by simpa using h1
                          clear hbb HR5 x4
                          go_wp2_with fail
                          go_roundw
                          case rel => exact ⟨r', c', g', q', z + 1, bb', rfl, rfl, rfl, HR6, HS3, HG3, HZ5⟩
                          case measure => have := HME.out; simp [intOf]; omega
                        · have HR6 := Lib.hid (HR5.out false (by symm; simp; omega))
                          have q1 : decide (r' < (k : Int)) = false := by simpa using h1
                          clear HR5 x4
                          go_wp2_with fail
                          go_roundw
                          case rel => exact ⟨r', c', g', q', z + 1, false, rfl, rfl, rfl, HR6, HS3, HG3, HZ5⟩
                          case measure => have := HME.out; simp [intOf]; omega
              · have hb4 := HR4.out
                have hb5 : 0 ≤ rr ∧ cc < C := by simpa using hb4.1.symm
                obtain ⟨rn, hrn⟩ : ∃ rn : Nat, rr = rn := ⟨rr.toNat, by omega⟩
                obtain ⟨cn, hcn⟩ : ∃ cn : Nat, cc = cn := ⟨cc.toNat, by omega⟩
                subst hrn hcn
                have x0 : (0 : Int) ≤ (rn : Int) := by omega
                have x1 : (0 : Int) ≤ (cn : Int) := by omega
                have x2 : (cn : Int) < (C : Int) := by omega
                have x3 : (rn : Int) ≤ 200 := by omega
                clear hb4 hb5
                go_upto_region 18 with (fail)
                go_cut [80] (fun b wx => ∃ bb : Bool, wa = wx ∧ b = .bool bb ∧ Hid (bb = decide (rn < k ∧ g rn cn < 0)))
                case first =>
                  by_cases h1 : rn < k
                  · have q1 : (rn : Int) < (k : Int) := by omega
                    obtain ⟨bb, hbb⟩ : ∃ bb, bb = decide (g rn cn < 0) := ⟨_, rfl⟩
                    have q2 : decide (g rn cn < 0) = bb := hbb.symm
                    have HBB := Lib.hid hbb
                    have p3 := HSg.out.1.c3
                    have ph := HSg.out.1.hd rn h1
                    have pc := HSg.out.1.at_ rn cn h1 (by omega)
                    clear hbb
                    go_wp2_with fail
                    go_meet
                    case rel => exact ⟨bb, rfl, rfl, Lib.hid (by rw [HBB.out]; apply decide_eq_decide.2; omega)⟩
                  · have q1 : decide ((rn : Int) < (k : Int)) = false := by simpa using h1
                    go_wp2_with fail
                    go_meet
                    case rel => exact ⟨false, rfl, rfl, Lib.hid (by simp; omega)⟩
                case rest =>
                  obtain ⟨bb, rfl, rfl, HBB⟩ := hcut
                  go_upto_if 80 with (fail)
                  go_cut [] (fun wx => ∃ g' q', Hid (Way5 wo wx E hb k C cap bl g' q' (z + 1)) ∧ Hid (Got k C (row + col) g'))
                  case first =>
                    cases bb
                    · go_wp2_with fail
                      go_meet
                      case rel => exact ⟨g, q, Lib.hid (HSg.out.more (by omega)), HGg⟩
                    · have hgo := HBB.out
                      have hgo2 : rn < k ∧ g rn cn < 0 := by simpa using hgo.symm
                      have hb4 := HR4.out
                      have hn4 := HGg.out.anch_up (r := rn) (c := cn) HC.out hb4.2.1 hb4.2.2.1 (by simpa using hgo2.2)
                      have hway : RD.Way (rn : Int) (cn : Int) := .inl (by have := HD.out; omega)
                      have HUT := Lib.hid (dm_utah E hb k C cap q bl g rn cn x0 (by omega) x1 x2 (fun i j hij => in_of k C rn cn HC.out x0 (by omega) x1 x2 hway hn4 i j hij) r0 (by omega) (by omega) (by have h3 := HSg.out.2.2.1; have h4 := HM2.out; have h5 := HZ.out; have := HD.out; omega) wa HSg.out.1)
                      clear hgo hgo2 hb4 hn4 hway
                      go_wp2_with fail
                      refine HUT.out.mono ?_
                      rintro e w3 ⟨rfl, g', q', g1, g2, _, g4, g5⟩
                      have HS3 := Lib.hid (HSg.out.put g1.out g2.out g4.out g5.out (Nat.le_refl _))
                      have HG3 := Lib.hid (HGg.out.mono g2.out)
                      clear g1 g2 g4 g5 HUT HSg HGg
                      go_wp2_with fail
                      go_meet
                      case rel => exact ⟨g', q', HS3, HG3⟩
                  case rest =>
                    obtain ⟨g', q', HS3, HG3⟩ := hcut
                    have hrr := HR4.out
                    obtain ⟨r', hr'⟩ : ∃ r', r' = (rn : Int) - 2 := ⟨_, rfl⟩
                    obtain ⟨c', hc'⟩ : ∃ c', c' = (cn : Int) + 2 := ⟨_, rfl⟩
                    have w1' : IntKind.i64.wrap ((rn : Int) - 2) = r' := by rw [hr', IntKind.wrap_i64]; omega
                    have w2' : IntKind.i64.wrap ((cn : Int) + 2) = c' := by rw [hc', IntKind.wrap_i64]; omega
                    have hev := HRE.out
                    have hd := HD.out
                    have HR5 : Hid (∀ bb : Bool, bb = decide (0 ≤ r' ∧ c' < C) → bb = decide (0 ≤ r' ∧ c' < C) ∧ r' + c' = row + col ∧ r' % 2 = 0 ∧ -2 ≤ r' ∧ r' ≤ k + 4 ∧ 0 ≤ c' ∧ c' ≤ C ∧ (bb = true ∨ r' ≤ k + 2)) := Lib.hid (fun bb hbb => ⟨hbb, by omega, by omega, by omega, by omega, by omega, by omega, .inr (by omega)⟩)
                    have HZ5 : Hid (((z + 1 : Nat) : Int) ≤ m + 1 + c') := Lib.hid (by have := HZ.out; omega)
                    have HME : Hid (c' ≤ 200 ∧ c' = (cn : Int) + 2) := Lib.hid (by omega)
                    clear hrr hr' hc' hev hd HSg HGg HZ
                    by_cases h1 : 0 ≤ r'
                    · obtain ⟨bb', hbb⟩ : ∃ bb, bb = decide (c' < (C : Int)) := ⟨_, rfl⟩
                      have q2 : decide (c' < (C : Int)) = bb' := hbb.symm
                      have HR6 := Lib.hid (HR5.out bb' (by rw [hbb]; apply decide_eq_decide.2; omega))
                      have q1 : decide (0 ≤ r') = true := by simpa using h1
                      clear hbb HR5
                      go_wp2_with fail
                      go_roundw
                      case rel => exact ⟨r', c', g', q', z + 1, bb', rfl, rfl, rfl, HR6, HS3, HG3, HZ5⟩
                      case measure => have := HME.out; simp [intOf]; omega
                    · have HR6 := Lib.hid (HR5.out false (by symm; simp; omega))
                      have q1 : decide (0 ≤ r') = false := by simpa using h1
                      clear HR5
                      go_wp2_with fail
                      go_roundw
                      case rel => exact ⟨r', c', g', q', z + 1, false, rfl, rfl, rfl, HR6, HS3, HG3, HZ5⟩
                      case measure => have := HME.out; simp [intOf]; omega
end Go.Proofs.Ytfnfikmijkeimaa
