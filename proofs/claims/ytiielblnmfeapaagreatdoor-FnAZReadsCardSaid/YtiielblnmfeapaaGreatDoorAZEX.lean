/-
  Decoder.extractBits, walked: the bits of the layers, in order. No condition beyond the bounds that each theorem states.
-/
import Derived.Test.YtiielblnmfeapaaGreatDoorAZLA
import Derived.Test.YtiielblnmfeapaaGreatDoorAZN
import Derived.Test.YtiielblnmfeapaaGreatDoorRDM
import Derived.StillTailTactics
import Derived.Deep.DeepCutAuto
namespace Go.Proofs.YtiielblnmfeapaaGreatDoor
open Go.RowKit Go.Qz Go.Qz.AZ
set_option linter.unusedVariables false

theorem Tryz.infoBoolEX : (Tryz.prog.info? 4).map (fun i => (i.zero, i.size, i.bytes)) = some (some (.bool false), 1, 1) := by kernel_rfl
theorem Tryz.infoIntEX : (Tryz.prog.info? 3).map (fun i => (i.zero, i.size, i.bytes)) = some (some (.int .i64 0), 1, 8) := by kernel_rfl
set_option maxRecDepth 100000 in
theorem azTotal (c : Bool) (l : Nat) (hl : l ≤ 32) (w : World) :
    Calls Tryz.prog 55 #[.int .i64 l, .bool c] w fun e w' => e = .returned (.int .i64 (bitsIn c l : Nat)) ∧ w = w' := by
  have hb := bitsIn_le c l hl
  cases c with
  | true =>
    obtain ⟨m, hm⟩ : ∃ m, m = 88 + 16 * l := ⟨_, rfl⟩
    obtain ⟨x, hx⟩ : ∃ x, x = bitsIn true l := ⟨_, rfl⟩
    have e1 : (88 : Int) + 16 * (l : Int) = (m : Int) := by omega
    have e2 : (m : Int) * (l : Int) = (x : Int) := by rw [hx, hm]; unfold bitsIn; simp
    rw [← hx] at hb ⊢
    clear hm hx
    go_enter Tryz.func55, Tryz.ntmps55
    go_wp2_with fail
    go_ret
    exact ⟨rfl, rfl⟩
  | false =>
    obtain ⟨m, hm⟩ : ∃ m, m = 112 + 16 * l := ⟨_, rfl⟩
    obtain ⟨x, hx⟩ : ∃ x, x = bitsIn false l := ⟨_, rfl⟩
    have e1 : (112 : Int) + 16 * (l : Int) = (m : Int) := by omega
    have e2 : (m : Int) * (l : Int) = (x : Int) := by rw [hx, hm]; unfold bitsIn; simp
    rw [← hx] at hb ⊢
    clear hm hx
    go_enter Tryz.func55, Tryz.ntmps55
    go_wp2_with fail
    go_ret
    exact ⟨rfl, rfl⟩
set_option maxRecDepth 100000 in
theorem azCompact (R : Nat) (a0 a1 a2 a3 : Value) (w : World) (h : Arr w 81 R [a0, a1, a2, a3]) :
    Calls Tryz.prog 53 #[.pointer (some ⟨R, 0, none⟩)] w fun e w' => e = .returned a1 ∧ w = w' := by
  have c := h.cell? 1
  simp only [List.getElem?_cons_zero, List.getElem?_cons_succ] at c
  go_enter Tryz.func53, Tryz.ntmps53
  go_wp2_with fail
  go_ret
  exact ⟨rfl, rfl⟩

/-- Which bits of a layer have been read, side by side. -/
def vis (o M q t : Nat) : Bool := decide (t < o + q ∨ (o + M ≤ t ∧ t < o + M + q) ∨ (o + 2 * M ≤ t ∧ t < o + 2 * M + q) ∨ (o + 3 * M ≤ t ∧ t < o + 3 * M + q))
theorem vis_zero (o M t : Nat) : vis o M 0 t = decide (t < o) := by
  unfold vis; rw [Bool.eq_iff_iff]; simp only [decide_eq_true_eq]; omega
theorem vis_all (o M t : Nat) : vis o M M t = decide (t < o + 4 * M) := by
  unfold vis; rw [Bool.eq_iff_iff]; simp only [decide_eq_true_eq]; omega
/-- One value more. -/
def put1 (R : Nat → Bool) (t : Nat) (b : Bool) : Nat → Bool := fun t' => if t' = t then b else R t'
theorem vis_step (o M q : Nat) (hq : q < M) (B : Nat → Bool) (t : Nat) :
    put1 (put1 (put1 (put1 (fun t => vis o M q t && B t) (o + q) (B (o + q))) (o + M + q) (B (o + M + q))) (o + 2 * M + q) (B (o + 2 * M + q))) (o + 3 * M + q) (B (o + 3 * M + q)) t = (vis o M (q + 1) t && B t) := by
  unfold put1
  have hv : vis o M (q + 1) t = (vis o M q t || decide (t = o + q ∨ t = o + M + q ∨ t = o + 2 * M + q ∨ t = o + 3 * M + q)) := by
    unfold vis; rw [Bool.eq_iff_iff]; simp only [decide_eq_true_eq, Bool.or_eq_true]; omega
  rw [hv]
  by_cases h3 : t = o + 3 * M + q
  · rw [if_pos h3, h3]; simp
  rw [if_neg h3]
  by_cases h2 : t = o + 2 * M + q
  · rw [if_pos h2, h2]; simp
  rw [if_neg h2]
  by_cases h1 : t = o + M + q
  · rw [if_pos h1, h1]; simp
  rw [if_neg h1]
  by_cases h0 : t = o + q
  · rw [if_pos h0, h0]; simp
  rw [if_neg h0]
  simp [h0, h1, h2, h3]

/-- What lies in memory while the bits are read. -/
structure ExS (c : Bool) (l N W : Nat) (w0 wr : World) (P Rw p g : Nat) (ws : List Nat) (R : Nat → Bool) : Prop where
  pl : Arr wr 3 P (rowV (pv (plc c l)) (sd c l))
  raw : Arr wr 4 Rw (rowV (fun t => .bool (R t)) N)
  bm : BM wr p g ws W W
  be : Below w0.heap.size w0 wr
  hp : w0.heap.size ≤ P
  hr : P < Rw
  lp : p < w0.heap.size
  lg : g < w0.heap.size
theorem ExS.place {c : Bool} {l N W : Nat} {w0 wr : World} {P Rw p g : Nat} {ws : List Nat} {R : Nat → Bool} (h : ExS c l N W w0 wr P Rw p g ws R) (x : Nat) (hx : x < sd c l) : wr.cell? ⟨P, x, none⟩ = some (.int .i64 (plc c l x : Nat)) := by
  rw [h.pl.cell?, rowV_get _ _ _ hx]; rfl
theorem ExS.old {c : Bool} {l N W : Nat} {w0 wr : World} {P Rw p g : Nat} {ws : List Nat} {R : Nat → Bool} (h : ExS c l N W w0 wr P Rw p g ws R) (t : Nat) (ht : t < N) : wr.cell? ⟨Rw, t, none⟩ = some (.bool (R t)) := by
  rw [h.raw.cell?, rowV_get _ _ _ ht]
theorem ExS.drew {c : Bool} {l N W : Nat} {w0 wr : World} {P Rw p g : Nat} {ws : List Nat} {R : Nat → Bool} (h : ExS c l N W w0 wr P Rw p g ws R) : ExS c l N W w0 wr.drew P Rw p g ws R := by
  have hm : Mod (fun _ => False) wr wr.drew := (Mod.refl wr).drew
  exact ⟨h.pl.mod hm (fun h => h), h.raw.mod hm (fun h => h), h.bm.mod hm (fun h => h) (fun h => h), h.be.drew, h.hp, h.hr, h.lp, h.lg⟩
theorem ExS.set_ {c : Bool} {l N W : Nat} {w0 wr : World} {P Rw p g : Nat} {ws : List Nat} {R : Nat → Bool} (h : ExS c l N W w0 wr P Rw p g ws R) (t : Nat) (b : Bool) : ExS c l N W w0 (wr.setCell ⟨Rw, t, none⟩ (.bool b)) P Rw p g ws (put1 R t b) := by
  have hmo := Mod.set1 wr Rw t (.bool b)
  have h1 := h.hp
  have h2 := h.hr
  have h3 := h.lp
  have h4 := h.lg
  refine ⟨h.pl.mod hmo (by omega), ?_, h.bm.mod hmo (by omega) (by omega), h.be.setCell (p := ⟨Rw, t, none⟩) (by show w0.heap.size ≤ Rw; omega) _, h1, h2, h3, h4⟩
  have := h.raw.set_ t (.bool b)
  rw [rowV_set (g := fun t' => .bool (put1 R t b t')) (fun j hj => by unfold put1; by_cases e : j = t <;> simp [e])] at this
  exact this
theorem ExS.congr {c : Bool} {l N W : Nat} {w0 wr : World} {P Rw p g : Nat} {ws : List Nat} {R R' : Nat → Bool} (h : ExS c l N W w0 wr P Rw p g ws R) (hR : ∀ t, t < N → R t = R' t) : ExS c l N W w0 wr P Rw p g ws R' := by
  refine ⟨h.pl, ?_, h.bm, h.be, h.hp, h.hr, h.lp, h.lg⟩
  rw [← rowV_congr (f := fun t => .bool (R t)) (fun j hj => by rw [hR j hj])]
  exact h.raw
theorem ExS.get {c : Bool} {l N W : Nat} {w0 wr : World} {P Rw p g : Nat} {ws : List Nat} {R : Nat → Bool} (h : ExS c l N W w0 wr P Rw p g ws R) (hW : W < 100000) (x y : Nat) (hx : x < W) (hy : y < W) (b : Bool) (hb : mb ws W x y = b) :
    Calls Tryz.prog 56 #[.pointer (some ⟨p, 0, none⟩), .int .i64 x, .int .i64 y] wr fun e w' => e = .returned (.bool b) ∧ w' = wr := by
  rw [← hb]
  exact (bm_get x y x y rfl rfl p g W W ws wr h.bm hx hy hW hW).mono (fun e w' h => ⟨h.1, h.2.symm⟩)
theorem addI {a b c : Nat} (h : c = a + b) : (a : Int) + (b : Int) = (c : Int) := by omega
theorem subI {a b c : Nat} (h : c = a - b) (hb : b ≤ a) : (a : Int) - (b : Int) = (c : Int) := by omega
theorem mulI (k : Nat) {a c : Nat} (h : c = k * a) : (k : Int) * (a : Int) = (c : Int) := by rw [h]; simp
theorem ltI {a b : Nat} (h : a < b) : (a : Int) < (b : Int) := by omega
theorem geI (a : Nat) : (0 : Int) ≤ (a : Int) := by omega
theorem wrapN {a : Nat} (h : a < 1000000) : IntKind.i64.wrap (a : Int) = (a : Int) := by rw [IntKind.wrap_i64]; omega
theorem ex_idx {S L i j n o N M cj i2 sx s2 q1 q2 q3 q4 m2 m4 m6 o1 o2 o3 x0 x1 x2 x3 t0 t1 t2 t3 : Nat} (hi2 : i2 = i * 2) (hsx : sx = S - 1) (hs2 : s2 = sx - i2) (hLs : L + 2 + 4 * i = S) (hj : j < L) (hn : n < 2) (hcj : cj = j * 2) (hO : o + 8 * L ≤ N) (hM : M = 2 * L)
    (hq1 : q1 = i2 + n) (hq2 : q2 = s2 - n) (hq3 : q3 = i2 + j) (hq4 : q4 = s2 - j) (hm2 : m2 = 2 * L) (hm4 : m4 = 4 * L) (hm6 : m6 = 6 * L) (ho1 : o1 = o + m2) (ho2 : o2 = o + m4) (ho3 : o3 = o + m6) (hx0 : x0 = o + cj) (hx1 : x1 = o1 + cj) (hx2 : x2 = o2 + cj) (hx3 : x3 = o3 + cj) (ht0 : t0 = x0 + n) (ht1 : t1 = x1 + n) (ht2 : t2 = x2 + n) (ht3 : t3 = x3 + n) :
    q1 < S ∧ n ≤ s2 ∧ q2 < S ∧ q3 < S ∧ j ≤ s2 ∧ q4 < S ∧ t0 < N ∧ t1 < N ∧ t2 < N ∧ t3 < N ∧ (t0 = o + (cj + n) ∧ t1 = o + M + (cj + n) ∧ t2 = o + 2 * M + (cj + n) ∧ t3 = o + 3 * M + (cj + n) ∧ cj + n < M) := by
  subst hi2 hsx hs2 hcj hM hm2 hm4 hm6 ho1 ho2 ho3 hx0 hx1 hx2 hx3
  subst hq1 hq2 hq3 hq4 ht0 ht1 ht2 ht3 hLs
  refine ⟨?_, ?_, ?_, ?_, ?_, ?_, ?_, ?_, ?_, ?_, ?_, ?_, ?_, ?_, ?_⟩ <;> omega
theorem ex_bds {S L n o N cj q1 q2 q3 q4 m2 m4 m6 o1 o2 o3 x0 x1 x2 x3 t0 t1 t2 t3 : Nat} (hS : S ≤ 142) (hL : L ≤ 140) (hO : o + 8 * L ≤ N) (hb : N ≤ 624 * 32) (b1 : q1 < S) (b2 : q2 < S) (b3 : q3 < S) (b4 : q4 < S) (h0 : t0 < N) (h1 : t1 < N) (h2 : t2 < N) (h3 : t3 < N)
    (hm2 : m2 = 2 * L) (hm4 : m4 = 4 * L) (hm6 : m6 = 6 * L) (ho1 : o1 = o + m2) (ho2 : o2 = o + m4) (ho3 : o3 = o + m6) (hx0 : x0 = o + cj) (hx1 : x1 = o1 + cj) (hx2 : x2 = o2 + cj) (hx3 : x3 = o3 + cj) (ht0 : t0 = x0 + n) (ht1 : t1 = x1 + n) (ht2 : t2 = x2 + n) (ht3 : t3 = x3 + n) :
    q1 < 1000000 ∧ q2 < 1000000 ∧ q3 < 1000000 ∧ q4 < 1000000 ∧ m2 < 1000000 ∧ m4 < 1000000 ∧ m6 < 1000000 ∧ o1 < 1000000 ∧ o2 < 1000000 ∧ o3 < 1000000 ∧ x0 < 1000000 ∧ x1 < 1000000 ∧ x2 < 1000000 ∧ x3 < 1000000 ∧ t0 < 1000000 ∧ t1 < 1000000 ∧ t2 < 1000000 ∧ t3 < 1000000 := by
  subst ht0 ht1 ht2 ht3
  subst hx0 hx1 hx2 hx3
  subst ho1 ho2 ho3
  subst hm2 hm4 hm6
  refine ⟨?_, ?_, ?_, ?_, ?_, ?_, ?_, ?_, ?_, ?_, ?_, ?_, ?_, ?_, ?_, ?_, ?_, ?_⟩ <;> omega
theorem ex_eqs {S L i j n o cj i2 sx s2 q1 q2 q3 q4 m2 m4 m6 o1 o2 o3 x0 x1 x2 x3 t0 t1 t2 t3 : Nat} (hi2 : i2 = i * 2) (hsx : sx = S - 1) (hs2 : s2 = sx - i2) (hcj : cj = j * 2)
    (hq1 : q1 = i2 + n) (hq2 : q2 = s2 - n) (hq3 : q3 = i2 + j) (hq4 : q4 = s2 - j) (hm2 : m2 = 2 * L) (hm4 : m4 = 4 * L) (hm6 : m6 = 6 * L) (ho1 : o1 = o + m2) (ho2 : o2 = o + m4) (ho3 : o3 = o + m6) (hx0 : x0 = o + cj) (hx1 : x1 = o1 + cj) (hx2 : x2 = o2 + cj) (hx3 : x3 = o3 + cj) (ht0 : t0 = x0 + n) (ht1 : t1 = x1 + n) (ht2 : t2 = x2 + n) (ht3 : t3 = x3 + n) :
    q1 = 2 * i + n ∧ q2 = S - 1 - 2 * i - n ∧ q3 = 2 * i + j ∧ q4 = S - 1 - 2 * i - j ∧ t0 = o + 2 * j + n ∧ t1 = o + 2 * L + 2 * j + n ∧ t2 = o + 2 * (L * 2) + 2 * j + n ∧ t3 = o + 2 * (L * 3) + 2 * j + n := by
  subst ht0 ht1 ht2 ht3
  subst hx0 hx1 hx2 hx3 hcj
  subst ho1 ho2 ho3
  subst hm2 hm4 hm6
  subst hq1 hq2 hq3 hq4
  subst hs2 hsx hi2
  refine ⟨?_, ?_, ?_, ?_, ?_, ?_, ?_, ?_⟩ <;> omega
theorem ex_vals {c : Bool} {l W : Nat} {ws : List Nat} {bits : List Bool} (hB : ∀ i k j n, i < l → k < 4 → j < lng c l i → n < 2 → mb ws W (plc c l (mx c l i k j n)) (plc c l (my c l i k j n)) = nthB bits (at_ c l i k j n))
    {S L i j n o cj i2 sx s2 q1 q2 q3 q4 m2 m4 m6 o1 o2 o3 x0 x1 x2 x3 t0 t1 t2 t3 : Nat} (hil : i < l) (hj : j < lng c l i) (hn : n < 2) (hS : S = sd c l) (hL : L = lng c l i) (hO : o = off c l i) (hi2 : i2 = i * 2) (hsx : sx = S - 1) (hs2 : s2 = sx - i2) (hcj : cj = j * 2)
    (hq1 : q1 = i2 + n) (hq2 : q2 = s2 - n) (hq3 : q3 = i2 + j) (hq4 : q4 = s2 - j) (hm2 : m2 = 2 * L) (hm4 : m4 = 4 * L) (hm6 : m6 = 6 * L) (ho1 : o1 = o + m2) (ho2 : o2 = o + m4) (ho3 : o3 = o + m6) (hx0 : x0 = o + cj) (hx1 : x1 = o1 + cj) (hx2 : x2 = o2 + cj) (hx3 : x3 = o3 + cj) (ht0 : t0 = x0 + n) (ht1 : t1 = x1 + n) (ht2 : t2 = x2 + n) (ht3 : t3 = x3 + n) :
    mb ws W (plc c l q1) (plc c l q3) = nthB bits t0 ∧ mb ws W (plc c l q3) (plc c l q2) = nthB bits t1 ∧ mb ws W (plc c l q2) (plc c l q4) = nthB bits t2 ∧ mb ws W (plc c l q4) (plc c l q1) = nthB bits t3 := by
  have h0 := hB i 0 j n hil (by omega) hj hn
  have h1 := hB i 1 j n hil (by omega) hj hn
  have h2 := hB i 2 j n hil (by omega) hj hn
  have h3 := hB i 3 j n hil (by omega) hj hn
  clear hB
  unfold mx my at_ at h0 h1 h2 h3
  simp at h0 h1 h2 h3
  rw [← hS] at h1 h2 h3
  rw [← hO] at h0
  rw [← hL, ← hO] at h1 h2 h3
  obtain ⟨e1, e2, e3, e4, u0, u1, u2, u3⟩ := ex_eqs hi2 hsx hs2 hcj hq1 hq2 hq3 hq4 hm2 hm4 hm6 ho1 ho2 ho3 hx0 hx1 hx2 hx3 ht0 ht1 ht2 ht3
  rw [e1, e2, e3, e4, u0, u1, u2, u3]
  exact ⟨h0, h1, h2, h3⟩
def ExPost (bits : List Bool) (w : World) (e : Ending) (w' : World) : Prop := ∃ Rw, e = .returned (.slice (some ⟨Rw, 0, none⟩) bits.length bits.length) ∧ Hid (Rd w' (some ⟨Rw, 0, none⟩) bits.length (fun j => .bool (nthB bits j))) ∧ Hid (Below w.heap.size w w')

set_option maxRecDepth 100000 in
set_option maxHeartbeats 25600000 in
theorem extractBits (cm : Bool) (l : Nat) (hl1 : 1 ≤ l) (hl : l ≤ 32) (bits : List Bool) (hbits : bits.length = off cm l l) (p g : Nat) (ws : List Nat) (D0 R0 : Nat) (a0 a2 : Value) (w : World)
    (hD0 : Arr w 77 D0 [.pointer (some ⟨R0, 0, none⟩)]) (hR0 : Arr w 81 R0 [a0, .bool cm, a2, .int .i64 l])
    (hbm : BM w p g ws (whole cm l) (whole cm l)) (hB : ∀ i k j n, i < l → k < 4 → j < lng cm l i → n < 2 → mb ws (whole cm l) (plc cm l (mx cm l i k j n)) (plc cm l (my cm l i k j n)) = nthB bits (at_ cm l i k j n)) :
    Calls Tryz.prog 37 #[.pointer (some ⟨D0, 0, none⟩), .pointer (some ⟨p, 0, none⟩)] w (ExPost bits w) := by
  have hWl : whole cm l ≤ 160 := by
    have hs : sd cm l ≤ 142 := by unfold sd; split <;> omega
    unfold whole
    cases cm
    · have hs2 : sd false l = 14 + 4 * l := rfl
      simp only [Bool.false_eq_true, if_false]; omega
    · have hs2 : sd true l = 11 + 4 * l := rfl
      simp only [if_true]; omega
  have hs : sd cm l = (if cm then 11 else 14) + 4 * l := rfl
  have hSb : 15 ≤ sd cm l ∧ sd cm l ≤ 142 := by rw [hs]; split <;> omega
  have heven : cm = false → sd cm l % 2 = 0 := fun h => by rw [hs, h]; simp; omega
  have hbi := bitsIn_le cm l hl
  have hNE : bits.length = bitsIn cm l := by rw [hbits, off_l]; rfl
  have hd0 := hD0.cell? 0
  simp only [List.getElem?_cons_zero] at hd0
  have HC := Lib.hid (azCompact R0 _ _ _ _ w hR0)
  have HNL := Lib.hid (nbLayers R0 _ _ _ _ w hR0)
  have HTB := Lib.hid (fun W => azTotal cm l hl W)
  have HBB := Lib.hid hB
  have HBM := Lib.hid hbm
  have HBO := Lib.hid hbits
  obtain ⟨S, hS⟩ : ∃ S, S = sd cm l := ⟨_, rfl⟩
  obtain ⟨Wh, hWh⟩ : ∃ Wh, Wh = whole cm l := ⟨_, rfl⟩
  obtain ⟨N, hN⟩ : ∃ N, N = bits.length := ⟨_, rfl⟩
  rw [← hS] at hSb heven hs
  rw [← hWh] at hWl HBM HBB
  rw [← hN] at hNE HBO
  rw [← hNE] at HTB hbi
  unfold ExPost
  rw [← hN]
  have HNB := Lib.hid hN
  have HWE := Lib.hid hWh
  have HSE := Lib.hid hS
  have hWb2 : Wh < 100000 := by omega
  have hmk := fun W => run_make1 (P := Tryz.prog) 24 3 (.int .i64 0) 8 Tryz.underlying24 Tryz.infoIntEX rfl (by decide) S (by omega) .i64 .i64 (S : Int) rfl W
  have hmk2 := fun W => run_make1 (P := Tryz.prog) 35 4 (.bool false) 1 Tryz.underlying35 Tryz.infoBoolEX rfl (by decide) N (by omega) .i64 .i64 (N : Int) rfl W
  obtain ⟨l4, hl4⟩ : ∃ x, x = l * 4 := ⟨_, rfl⟩
  have j0 : (l : Int) * 4 = (l4 : Int) := by omega
  have hl4b : l4 ≤ 128 := by omega
  have HSL : Hid (S = (if cm then 11 else 14) + l4) := Lib.hid (by rw [hs, hl4]; omega)
  have HEV := Lib.hid heven
  clear hs heven hNE hD0 hR0 hB hbm hbits hS hWh hN hl4
  go_enter Tryz.func37, Tryz.ntmps37
  go_wp2_with fail
  refine HC.out.mono ?_
  rintro e w1 ⟨rfl, rfl⟩
  go_wp2_with fail
  refine HNL.out.mono ?_
  rintro e w1 ⟨rfl, rfl⟩
  go_upto_if 36 with (fail)
  go_cut [7] (fun a wx => w = wx ∧ a = .int .i64 (S : Nat))
  case first =>
    cases cm with
    | true =>
      have j3 : (l4 : Int) + 11 = (S : Int) := by have := HSL.out; simp at this; omega
      go_wp2_with fail
      go_meet
      case rel => exact ⟨rfl, rfl⟩
    | false =>
      have j3 : (l4 : Int) + 14 = (S : Int) := by have := HSL.out; simp at this; omega
      go_wp2_with fail
      go_meet
      case rel => first | exact ⟨rfl, rfl⟩ | exact ⟨rfl, by rw [j3]⟩
  case rest =>
  obtain ⟨rfl, rfl⟩ := hcut
  clear HSL HC HNL
  go_wp2_with fail
  refine (HTB.out _).mono ?_
  rintro e w1 ⟨rfl, rfl⟩
  go_upto_if 47 with (fail)
  have hA := Arr.new w 3 (List.replicate S (.int .i64 0))
  have hA' := Arr.new (w.alloc (.cells (zeros S (.int .i64 0)) 3)) 4 (List.replicate N (.bool false))
  have hb : Below w.heap.size w ((w.alloc (.cells (zeros S (.int .i64 0)) 3)).alloc (.cells (zeros N (.bool false)) 4)) := ((Below.refl _ _).alloc (Nat.le_refl _) _).alloc (by simp) _
  have hz : (w.alloc (.cells (zeros S (.int .i64 0)) 3)).heap.size = w.heap.size + 1 := by simp
  rw [hz] at hA'
  have hA1 : Arr ((w.alloc (.cells (zeros S (.int .i64 0)) 3)).alloc (.cells (zeros N (.bool false)) 4)) 3 w.heap.size (List.replicate S (.int .i64 0)) := hA.below ((Below.refl _ _).alloc (Nat.le_refl _) _) (by simp)
  obtain ⟨W1, hW1⟩ : ∃ W1, W1 = (w.alloc (.cells (zeros S (.int .i64 0)) 3)).alloc (.cells (zeros N (.bool false)) 4) := ⟨_, rfl⟩
  have hA3 : Arr W1 4 (w.heap.size + 1) (List.replicate N (.bool false)) := by rw [hW1]; exact hA'
  rw [← hW1] at hA1 hb ⊢
  obtain ⟨P, hP⟩ : ∃ P, P = w.heap.size := ⟨_, rfl⟩
  rw [← hP] at hA1 hA3 hb ⊢
  obtain ⟨Rw, hRw⟩ : ∃ Rw, Rw = P + 1 := ⟨_, rfl⟩
  rw [← hRw] at hA3 ⊢
  have HRP : Hid (P < Rw) := Lib.hid (by omega)
  have HA0 := Lib.hid hA1
  have HRW := Lib.hid hA3
  have HB := Lib.hid hb
  have HPE := Lib.hid hP
  clear hA hA' hA1 hA3 hz hb hW1 hP hRw hmk hmk2 hd0
  go_cut [10, 11, 12, 13, 14, 15] (fun v10 v11 v12 v13 v14 v15 wx => Hid (Arr wx 3 P (rowV (pv (plc cm l)) S)) ∧ Hid (Arr wx 4 Rw (List.replicate N (.bool false))) ∧ Hid (Below P w wx))
  case first =>
    cases cm with
    | true =>
      as_aux_lemma =>
        have HPT : Hid (∀ x, plc true l x = x) := Lib.hid (fun x => by unfold plc; rw [if_pos rfl])
        have HA : Hid (Arr W1 3 P (rowV (fun x => if x < 0 then .int .i64 (x : Nat) else .int .i64 0) S)) := Lib.hid (by
          rw [rowV_congr (g := fun _ => .int .i64 0) (fun x _ => by simp), rowV_const]; exact HA0.out)
        clear HA0 HEV HBB HBM HBO HNB HWE HSE HPE
        go_wp2_with fail
        go_loopw [10] (fun i wr => ∃ k : Nat, k ≤ S ∧ i = .int .i64 k ∧ Hid (Arr wr 3 P (rowV (fun x => if x < k then .int .i64 (x : Nat) else .int .i64 0) S)) ∧ Hid (Arr wr 4 Rw (List.replicate N (.bool false))) ∧ Hid (Below P w wr)) (fun i _ => S - (intOf i).toNat)
        case atStart => exact ⟨0, Nat.zero_le _, rfl, HA, HRW, HB⟩
        case round =>
          obtain ⟨k, hk, rfl, HA2, HRW2, HB2⟩ := hrel
          clear HA HB HRW
          by_cases hlt : k < S
          · have hki : (k : Int) < (S : Int) := by omega
            have hk0 : (0 : Int) ≤ (k : Int) := by omega
            have cc := HA2.out.cell? k
            rw [rowV_get _ _ _ hlt, if_neg (by omega)] at cc
            have hf := HA2.out.free k
            have HA3 : Hid (Arr (wr.setCell ⟨P, k, none⟩ (.int .i64 k)) 3 P (rowV (fun x => if x < k + 1 then .int .i64 (x : Nat) else .int .i64 0) S)) := Lib.hid (by
              rw [← rowV_set (f := fun x => if x < k then Value.int .i64 (x : Nat) else .int .i64 0) (c := k) (v := .int .i64 k) (fun j hj => by
                by_cases h9 : j = k
                · subst h9; rw [if_pos (by omega), if_pos rfl]
                · rw [if_neg h9]
                  by_cases h8 : j < k
                  · rw [if_pos h8, if_pos (by omega)]
                  · rw [if_neg h8, if_neg (by omega)])]
              exact HA2.out.set_ k _)
            have HRW3 : Hid (Arr (wr.setCell ⟨P, k, none⟩ (.int .i64 k)) 4 Rw (List.replicate N (.bool false))) := Lib.hid (HRW2.out.mod (Mod.set1 wr P k _) (by have := HRP.out; omega))
            have HB3 : Hid (Below P w (wr.setCell ⟨P, k, none⟩ (.int .i64 k))) := Lib.hid (HB2.out.setCell (p := ⟨P, k, none⟩) (Nat.le_refl _) _)
            clear HA2 HB2 HRW2
            go_wp2_with fail
            go_roundw
            case rel => exact ⟨k + 1, by omega, by go_num, HA3, HRW3, HB3⟩
            case measure => simp [intOf]; omega
          · obtain rfl : k = S := by omega
            have hkk : ((k : Int) < (k : Int)) = False := by simp
            go_wp2_with fail
            go_meet
            case rel => exact ⟨Lib.hid (by
              rw [rowV_congr (g := fun x => if x < k then Value.int .i64 (x : Nat) else .int .i64 0) (fun j hj => by unfold pv; (try dsimp only); rw [HPT.out, if_pos hj])]
              exact HA2.out), HRW2, HB2⟩
    | false =>
      as_aux_lemma =>
        have hev := HEV.out rfl
        obtain ⟨h, hh⟩ : ∃ h, h = S / 2 := ⟨_, rfl⟩
        have hS2 : S = 2 * h := by omega
        obtain ⟨h1, hh1⟩ : ∃ x, x = h - 1 := ⟨_, rfl⟩
        obtain ⟨q, hq⟩ : ∃ x, x = h1 / 15 := ⟨_, rfl⟩
        obtain ⟨q2, hq2⟩ : ∃ x, x = 2 * q := ⟨_, rfl⟩
        obtain ⟨s1, hs1⟩ : ∃ x, x = S + 1 := ⟨_, rfl⟩
        obtain ⟨wv, hwv⟩ : ∃ x, x = s1 + q2 := ⟨_, rfl⟩
        obtain ⟨c0, hc0⟩ : ∃ x, x = wv / 2 := ⟨_, rfl⟩
        have hc0' : c0 = h + q := by omega
        have hwhole : whole false l = wv := by unfold whole; rw [← HSE.out, if_neg (by simp), ← hh]; omega
        have HPX : Hid (∀ x, plc false l x = if x < h then c0 - ((h - 1 - x) + (h - 1 - x) / 15) - 1 else c0 + ((x - h) + (x - h) / 15) + 1) := Lib.hid (fun x => by
          unfold plc
          rw [if_neg (by simp), ← HSE.out, ← hh, hwhole, ← hc0])
        have i1 : (S : Int) / 2 = (h : Int) := by omega
        have i1' : (S : Int).tdiv 2 = (h : Int) := by rw [Int.tdiv_eq_ediv_of_nonneg (by omega)]; omega
        have i2 : (h : Int) - 1 = (h1 : Int) := by omega
        have i3 : (h1 : Int) / 15 = (q : Int) := by omega
        have i3' : (h1 : Int).tdiv 15 = (q : Int) := by rw [Int.tdiv_eq_ediv_of_nonneg (by omega)]; omega
        have i4 : (2 : Int) * (q : Int) = (q2 : Int) := by omega
        have i5 : (S : Int) + 1 = (s1 : Int) := by omega
        have i6 : (s1 : Int) + (q2 : Int) = (wv : Int) := by omega
        have i7 : (wv : Int) / 2 = (c0 : Int) := by omega
        have i7' : (wv : Int).tdiv 2 = (c0 : Int) := by rw [Int.tdiv_eq_ediv_of_nonneg (by omega)]; omega
        have hb9 : h ≤ 71 ∧ wv ≤ 200 ∧ q ≤ 5 ∧ s1 ≤ 143 ∧ q2 ≤ 10 := by omega
        have HQ := Lib.hid (And.intro hc0' (And.intro hq (And.intro hh1 hS2)))
        clear HEV hev hwhole hh hh1 hq hq2 hs1 hwv hc0 hc0' hS2
        have HA : Hid (Arr W1 3 P (rowV (pv (fun x => if h - 0 ≤ x ∧ x < h + 0 then plc false l x else 0)) S)) := Lib.hid (by
          rw [rowV_congr (g := fun _ => .int .i64 0) (fun x _ => by unfold pv; (try dsimp only); rw [if_neg (by omega)]; rfl), rowV_const]; exact HA0.out)
        clear HA0 HBB HBM HBO HNB HWE HSE HPE
        go_wp2_with fail
        go_loopw [14] (fun i wr => ∃ k : Nat, k ≤ h ∧ i = .int .i64 k ∧ Hid (Arr wr 3 P (rowV (pv (fun x => if h - k ≤ x ∧ x < h + k then plc false l x else 0)) S)) ∧ Hid (Arr wr 4 Rw (List.replicate N (.bool false))) ∧ Hid (Below P w wr)) (fun i _ => h - (intOf i).toNat)
        case atStart => exact ⟨0, Nat.zero_le _, rfl, HA, HRW, HB⟩
        case round =>
          obtain ⟨k, hk, rfl, HA2, HRW2, HB2⟩ := hrel
          clear HA HB HRW
          obtain ⟨wi, hwi⟩ : ∃ wi, wi = wr := ⟨_, rfl⟩
          rw [← hwi] at HA2 HRW2 HB2 ⊢
          clear hwi
          by_cases hlt : k < h
          · have hki : (k : Int) < (h : Int) := by omega
            have hk0 : (0 : Int) ≤ (k : Int) := by omega
            obtain ⟨hc0, hqq, hhh, hS2⟩ := HQ.out
            obtain ⟨k15, hk15⟩ : ∃ x, x = k / 15 := ⟨_, rfl⟩
            obtain ⟨mo, hmo⟩ : ∃ x, x = k + k15 := ⟨_, rfl⟩
            have hkq : k15 ≤ q := by rw [hk15, hqq]; exact Nat.div_le_div_right (by omega)
            obtain ⟨a1, ha1⟩ : ∃ x, x = h - k := ⟨_, rfl⟩
            obtain ⟨a2, ha2⟩ : ∃ x, x = a1 - 1 := ⟨_, rfl⟩
            obtain ⟨b1, hb1⟩ : ∃ x, x = c0 - mo := ⟨_, rfl⟩
            obtain ⟨b2, hb2⟩ : ∃ x, x = b1 - 1 := ⟨_, rfl⟩
            obtain ⟨d1, hd1⟩ : ∃ x, x = h + k := ⟨_, rfl⟩
            obtain ⟨e1, he1⟩ : ∃ x, x = c0 + mo := ⟨_, rfl⟩
            obtain ⟨e2, he2⟩ : ∃ x, x = e1 + 1 := ⟨_, rfl⟩
            have j1 : (k : Int) / 15 = (k15 : Int) := by omega
            have j1' : (k : Int).tdiv 15 = (k15 : Int) := by rw [Int.tdiv_eq_ediv_of_nonneg (by omega)]; omega
            have j2 : (k : Int) + (k15 : Int) = (mo : Int) := by omega
            have j3 : (h : Int) - (k : Int) = (a1 : Int) := by omega
            have j4 : (a1 : Int) - 1 = (a2 : Int) := by omega
            have j5 : (c0 : Int) - (mo : Int) = (b1 : Int) := by omega
            have j6 : (b1 : Int) - 1 = (b2 : Int) := by omega
            have j7 : (h : Int) + (k : Int) = (d1 : Int) := by omega
            have j8 : (c0 : Int) + (mo : Int) = (e1 : Int) := by omega
            have j9 : (e1 : Int) + 1 = (e2 : Int) := by omega
            have ha2S : a2 < S := by omega
            have ha2i : (a2 : Int) < (S : Int) := by omega
            have ha20 : (0 : Int) ≤ (a2 : Int) := by omega
            have hd1S : d1 < S := by omega
            have hd1i : (d1 : Int) < (S : Int) := by omega
            have hd10 : (0 : Int) ≤ (d1 : Int) := by omega
            have hp1 : plc false l a2 = b2 := by
              rw [HPX.out, if_pos (by omega), show h - 1 - a2 = k by omega, ← hk15]; omega
            have hp2 : plc false l d1 = e2 := by
              rw [HPX.out, if_neg (by omega), show d1 - h = k by omega, ← hk15]; omega
            have cc := HA2.out.cell? a2
            rw [rowV_get _ _ _ ha2S] at cc
            unfold pv at cc
            try dsimp only at cc
            rw [if_neg (by omega)] at cc
            have hf := HA2.out.free a2
            have hA3 : Arr (wi.setCell ⟨P, a2, none⟩ (.int .i64 b2)) 3 P (rowV (pv (fun x => if x = a2 ∨ (h - k ≤ x ∧ x < h + k) then plc false l x else 0)) S) := by
              rw [← rowV_set (f := pv (fun x => if h - k ≤ x ∧ x < h + k then plc false l x else 0)) (c := a2) (v := .int .i64 b2) (fun j hj => by
                unfold pv
                try dsimp only
                by_cases h9 : j = a2
                · rw [if_pos h9, if_pos (.inl h9), h9, hp1]
                · rw [if_neg h9]
                  by_cases h8 : h - k ≤ j ∧ j < h + k
                  · rw [if_pos h8, if_pos (.inr h8)]
                  · rw [if_neg h8, if_neg (by omega)])]
              exact HA2.out.set_ a2 _
            have cd := hA3.cell? d1
            rw [rowV_get _ _ _ hd1S] at cd
            unfold pv at cd
            try dsimp only at cd
            rw [if_neg (by omega)] at cd
            have hfd := hA3.free d1
            have HA4 : Hid (Arr ((wi.setCell ⟨P, a2, none⟩ (.int .i64 b2)).setCell ⟨P, d1, none⟩ (.int .i64 e2)) 3 P (rowV (pv (fun x => if h - (k + 1) ≤ x ∧ x < h + (k + 1) then plc false l x else 0)) S)) := Lib.hid (by
              rw [← rowV_set (f := pv (fun x => if x = a2 ∨ (h - k ≤ x ∧ x < h + k) then plc false l x else 0)) (c := d1) (v := .int .i64 e2) (fun j hj => by
                unfold pv
                try dsimp only
                by_cases h9 : j = d1
                · rw [if_pos h9, if_pos (by omega), h9, hp2]
                · rw [if_neg h9]
                  by_cases h8 : j = a2 ∨ (h - k ≤ j ∧ j < h + k)
                  · rw [if_pos h8, if_pos (by omega)]
                  · rw [if_neg h8, if_neg (by omega)])]
              exact hA3.set_ d1 _)
            have HRW4 : Hid (Arr ((wi.setCell ⟨P, a2, none⟩ (.int .i64 b2)).setCell ⟨P, d1, none⟩ (.int .i64 e2)) 4 Rw (List.replicate N (.bool false))) := Lib.hid ((HRW2.out.mod (Mod.set1 wi P a2 _) (by have := HRP.out; omega)).mod (Mod.set1 _ P d1 _) (by have := HRP.out; omega))
            have HB4 : Hid (Below P w ((wi.setCell ⟨P, a2, none⟩ (.int .i64 b2)).setCell ⟨P, d1, none⟩ (.int .i64 e2))) := Lib.hid ((HB2.out.setCell (p := ⟨P, a2, none⟩) (Nat.le_refl _) _).setCell (p := ⟨P, d1, none⟩) (Nat.le_refl _) _)
            have hbnd : mo ≤ 80 ∧ e2 ≤ 300 := by omega
            clear hc0 hqq hhh hS2 hk15 hmo hkq ha1 ha2 hb1 hb2 hd1 he1 he2 hp1 hp2 hA3 HA2 HB2 HRW2
            go_wp2_with fail
            go_roundw
            case rel => exact ⟨k + 1, by omega, by go_num, HA4, HRW4, HB4⟩
            case measure => simp [intOf]; omega
          · obtain rfl : k = h := by omega
            have hkk : ((k : Int) < (k : Int)) = False := by simp
            have HA5 : Hid (Arr wi 3 P (rowV (pv (plc false l)) S)) := Lib.hid (by
              have hS2 := HQ.out.2.2.2
              rw [rowV_congr (g := pv (fun x => if k - k ≤ x ∧ x < k + k then plc false l x else 0)) (fun j hj => by unfold pv; (try dsimp only); rw [if_pos (by omega)])]
              exact HA2.out)
            clear HA2
            go_wp2_with fail
            go_meet
            case rel => exact ⟨HA5, HRW2, HB2⟩
  case rest =>
  obtain ⟨HPL, HRWc, HBc⟩ := hcut
  obtain ⟨wz, hwz⟩ : ∃ x, x = wc := ⟨_, rfl⟩
  rw [← hwz] at HPL HRWc HBc ⊢
  have HEI : Hid (ExS cm l N Wh w wz P Rw p g ws (fun t' => decide (t' < 0) && nthB bits t')) := Lib.hid ⟨by rw [← HSE.out]; exact HPL.out, by
      rw [rowV_congr (g := fun _ => .bool false) (fun x _ => by simp), rowV_const]; exact HRWc.out, HBM.out.below (by rw [← HPE.out]; exact HBc.out) HBM.out.plt HBM.out.glt, by rw [← HPE.out]; exact HBc.out, by rw [← HPE.out]; exact Nat.le_refl _, HRP.out, HBM.out.plt, HBM.out.glt⟩
  clear hwz HPL HRWc HBc HA0 HRW HB HEV HTB HRP HBM HPE j0 hl4b HNB
  go_wp2_with fail
  go_loopw [16, 17] (fun v a wr => ∃ (i' t : Nat), i' ≤ l ∧ v = .int .i64 i' ∧ a = .int .i64 t ∧ Hid (t = off cm l i') ∧ Hid (ExS cm l N Wh w wr P Rw p g ws (fun t' => decide (t' < t) && nthB bits t'))) (fun v _ _ => l - (intOf v).toNat)
  case atStart => exact ⟨0, 0, Nat.zero_le _, rfl, rfl, Lib.hid rfl, HEI⟩
  case round =>
    obtain ⟨i, o, hi, rfl, rfl, HO, HEo⟩ := hrel
    clear HEI
    obtain ⟨wo, hwo⟩ : ∃ wo, wo = wr := ⟨_, rfl⟩
    rw [← hwo] at HEo ⊢
    clear hwo
    by_cases hil : i < l
    · have hil1 : (i : Int) < (l : Int) := by omega
      have hLs := lng_sd (c := cm) hil
      obtain ⟨L, hL⟩ : ∃ L, L = lng cm l i := ⟨_, rfl⟩
      have hLu : L = 4 * (l - i) + (if cm then 9 else 12) := hL
      rw [← hL, ← HSE.out] at hLs
      have HLE := Lib.hid hL
      have HOL : Hid (o + 8 * L ≤ N) := Lib.hid (by
        have h2 := off_mono (c := cm) (l := l) hil
        rw [← hL, ← HO.out, ← HBO.out] at h2; exact h2)
      obtain ⟨li, hli⟩ : ∃ li, li = l - i := ⟨_, rfl⟩
      obtain ⟨x4, hx4⟩ : ∃ x4, x4 = li * 4 := ⟨_, rfl⟩
      have j1 : (l : Int) - (i : Int) = (li : Int) := by omega
      have j2 : (li : Int) * 4 = (x4 : Int) := by omega
      have hx4b : x4 ≤ 128 := by omega
      have HCM : Hid (L = x4 + (if cm then 9 else 12)) := Lib.hid (by rw [hx4, hli]; omega)
      have HLS2 := Lib.hid hLs
      have hLb : L ≤ 140 := by omega
      clear hL hLu hli hx4 hLs
      go_upto_if 107 with (fail)
      go_cut [18] (fun a wx => wo = wx ∧ a = .int .i64 (L : Nat))
      case first =>
        cases cm with
        | true =>
          have j3 : (x4 : Int) + 9 = (L : Int) := by have := HCM.out; simp at this; omega
          go_wp2_with fail
          go_meet
          case rel => exact ⟨rfl, rfl⟩
        | false =>
          have j3 : (x4 : Int) + 12 = (L : Int) := by have := HCM.out; simp at this; omega
          go_wp2_with fail
          go_meet
          case rel => first | exact ⟨rfl, rfl⟩ | exact ⟨rfl, by rw [j3]⟩
      case rest =>
        obtain ⟨rfl, rfl⟩ := hcut
        obtain ⟨M, hM⟩ : ∃ M, M = 2 * L := ⟨_, rfl⟩
        have HM := Lib.hid hM
        obtain ⟨i2, hi2⟩ : ∃ x, x = i * 2 := ⟨_, rfl⟩
        obtain ⟨sx, hsx⟩ : ∃ x, x = S - 1 := ⟨_, rfl⟩
        obtain ⟨s2, hs2⟩ : ∃ x, x = sx - i2 := ⟨_, rfl⟩
        have k1 : (i : Int) * 2 = (i2 : Int) := by omega
        have k2 : (S : Int) - 1 = (sx : Int) := by omega
        have k3 : (sx : Int) - (i2 : Int) = (s2 : Int) := by have := HLS2.out; omega
        have HI2 := Lib.hid (And.intro hi2 (And.intro hsx hs2))
        have hsm : i2 ≤ 64 ∧ sx ≤ 142 ∧ s2 ≤ 142 := by omega
        have hoN : o ≤ N := by have := HOL.out; omega
        have HEj : Hid (ExS cm l N Wh w wo P Rw p g ws (fun t' => vis o M (2 * 0) t' && nthB bits t')) := Lib.hid (HEo.out.congr (fun t _ => by rw [Nat.mul_zero, vis_zero]))
        clear HCM j1 j2 hx4b hM hi2 hsx hs2 HEo
        go_wp2_with fail
        go_loopw [21] (fun v wr => ∃ j' : Nat, j' ≤ L ∧ v = .int .i64 j' ∧ Hid (ExS cm l N Wh w wr P Rw p g ws (fun t' => vis o M (2 * j') t' && nthB bits t'))) (fun v _ => L - (intOf v).toNat)
        case atStart => exact ⟨0, by omega, rfl, HEj⟩
        case round =>
          obtain ⟨j, hj, rfl, HEJ⟩ := hrel
          clear HEj
          obtain ⟨wj, hwj⟩ : ∃ wj, wj = wr := ⟨_, rfl⟩
          rw [← hwj] at HEJ ⊢
          clear hwj
          by_cases hjl : j < L
          · have hjl1 : (j : Int) < (L : Int) := by omega
            obtain ⟨cj, hcj⟩ : ∃ x, x = j * 2 := ⟨_, rfl⟩
            have k4 : (j : Int) * 2 = (cj : Int) := by omega
            have HCJ := Lib.hid hcj
            have hcjb : cj ≤ 280 := by omega
            have HEn : Hid (ExS cm l N Wh w wj P Rw p g ws (fun t' => vis o M (cj + 0) t' && nthB bits t')) := Lib.hid (by rw [hcj, Nat.add_zero, Nat.mul_comm]; exact HEJ.out)
            clear HEJ hcj
            go_wp2_with fail
            go_loopw [23] (fun v wr => ∃ n' : Nat, n' ≤ 2 ∧ v = .int .i64 n' ∧ Hid (ExS cm l N Wh w wr P Rw p g ws (fun t' => vis o M (cj + n') t' && nthB bits t'))) (fun v _ => 2 - (intOf v).toNat)
            case atStart => exact ⟨0, by omega, rfl, HEn⟩
            case round =>
              obtain ⟨n, hn, rfl, HE0⟩ := hrel
              clear HEn
              obtain ⟨wn, hwn⟩ : ∃ wn, wn = wr := ⟨_, rfl⟩
              rw [← hwn] at HE0 ⊢
              clear hwn
              by_cases hn2 : n < 2
              · have hn21 : (n : Int) < 2 := by omega
                have hLs := HLS2.out
                have hI := HI2.out
                have hC := HCJ.out
                have hO := HOL.out
                have hM := HM.out
                have hjl' : j < lng cm l i := by rw [← HLE.out]; exact hjl
                obtain ⟨q1, hq1⟩ : ∃ x, x = i2 + n := ⟨_, rfl⟩
                obtain ⟨q2, hq2⟩ : ∃ x, x = s2 - n := ⟨_, rfl⟩
                obtain ⟨q3, hq3⟩ : ∃ x, x = i2 + j := ⟨_, rfl⟩
                obtain ⟨q4, hq4⟩ : ∃ x, x = s2 - j := ⟨_, rfl⟩
                obtain ⟨m2, hm2⟩ : ∃ x, x = 2 * L := ⟨_, rfl⟩
                obtain ⟨m4, hm4⟩ : ∃ x, x = 4 * L := ⟨_, rfl⟩
                obtain ⟨m6, hm6⟩ : ∃ x, x = 6 * L := ⟨_, rfl⟩
                obtain ⟨o1, ho1⟩ : ∃ x, x = o + m2 := ⟨_, rfl⟩
                obtain ⟨o2, ho2⟩ : ∃ x, x = o + m4 := ⟨_, rfl⟩
                obtain ⟨o3, ho3⟩ : ∃ x, x = o + m6 := ⟨_, rfl⟩
                obtain ⟨x0, hx0⟩ : ∃ x, x = o + cj := ⟨_, rfl⟩
                obtain ⟨x1, hx1⟩ : ∃ x, x = o1 + cj := ⟨_, rfl⟩
                obtain ⟨x2, hx2⟩ : ∃ x, x = o2 + cj := ⟨_, rfl⟩
                obtain ⟨x3, hx3⟩ : ∃ x, x = o3 + cj := ⟨_, rfl⟩
                obtain ⟨t0, ht0⟩ : ∃ x, x = x0 + n := ⟨_, rfl⟩
                obtain ⟨t1, ht1⟩ : ∃ x, x = x1 + n := ⟨_, rfl⟩
                obtain ⟨t2, ht2⟩ : ∃ x, x = x2 + n := ⟨_, rfl⟩
                obtain ⟨t3, ht3⟩ : ∃ x, x = x3 + n := ⟨_, rfl⟩
                obtain ⟨nb1, hns, nb2, nb3, hjs, nb4, hN0, hN1, hN2, hN3, HTT⟩ := ex_idx hI.1 hI.2.1 hI.2.2 hLs hjl hn2 hC hO hM hq1 hq2 hq3 hq4 hm2 hm4 hm6 ho1 ho2 ho3 hx0 hx1 hx2 hx3 ht0 ht1 ht2 ht3
                have hbd := ex_bds hSb.2 hLb hO hbi nb1 nb2 nb3 nb4 hN0 hN1 hN2 hN3 hm2 hm4 hm6 ho1 ho2 ho3 hx0 hx1 hx2 hx3 ht0 ht1 ht2 ht3
                obtain ⟨z1, z2, z3, z4, z5, z6, z7, z8, z9, z10, z11, z12, z13, z14, z15, z16, z17, z18⟩ := hbd
                have HZQ1 := Lib.hid (And.intro (addI hq1) (wrapN z1))
                have HZQ2 := Lib.hid (And.intro (subI hq2 hns) (wrapN z2))
                have HZQ3 := Lib.hid (And.intro (addI hq3) (wrapN z3))
                have HZQ4 := Lib.hid (And.intro (subI hq4 hjs) (wrapN z4))
                have HZM2 := Lib.hid (And.intro (show (2 : Int) * (L : Int) = (m2 : Int) from mulI 2 hm2) (wrapN z5))
                have HZM4 := Lib.hid (And.intro (show (4 : Int) * (L : Int) = (m4 : Int) from mulI 4 hm4) (wrapN z6))
                have HZM6 := Lib.hid (And.intro (show (6 : Int) * (L : Int) = (m6 : Int) from mulI 6 hm6) (wrapN z7))
                have HZO1 := Lib.hid (And.intro (addI ho1) (wrapN z8))
                have HZO2 := Lib.hid (And.intro (addI ho2) (wrapN z9))
                have HZO3 := Lib.hid (And.intro (addI ho3) (wrapN z10))
                have HZX0 := Lib.hid (And.intro (addI hx0) (wrapN z11))
                have HZX1 := Lib.hid (And.intro (addI hx1) (wrapN z12))
                have HZX2 := Lib.hid (And.intro (addI hx2) (wrapN z13))
                have HZX3 := Lib.hid (And.intro (addI hx3) (wrapN z14))
                have HZT0 := Lib.hid (And.intro (addI ht0) (wrapN z15))
                have HZT1 := Lib.hid (And.intro (addI ht1) (wrapN z16))
                have HZT2 := Lib.hid (And.intro (addI ht2) (wrapN z17))
                have HZT3 := Lib.hid (And.intro (addI ht3) (wrapN z18))
                have HIQ1 := Lib.hid (And.intro (ltI nb1) (And.intro (geI q1) nb1))
                have HIQ2 := Lib.hid (And.intro (ltI nb2) (And.intro (geI q2) nb2))
                have HIQ3 := Lib.hid (And.intro (ltI nb3) (And.intro (geI q3) nb3))
                have HIQ4 := Lib.hid (And.intro (ltI nb4) (And.intro (geI q4) nb4))
                have HIT0 := Lib.hid (And.intro (ltI hN0) (And.intro (geI t0) hN0))
                have HIT1 := Lib.hid (And.intro (ltI hN1) (And.intro (geI t1) hN1))
                have HIT2 := Lib.hid (And.intro (ltI hN2) (And.intro (geI t2) hN2))
                have HIT3 := Lib.hid (And.intro (ltI hN3) (And.intro (geI t3) hN3))
                have HT := Lib.hid HTT
                have hs1 : q1 < sd cm l := by rw [← HSE.out]; exact nb1
                have hs2 : q2 < sd cm l := by rw [← HSE.out]; exact nb2
                have hs3 : q3 < sd cm l := by rw [← HSE.out]; exact nb3
                have hs4 : q4 < sd cm l := by rw [← HSE.out]; exact nb4
                obtain ⟨g0, g1, g2, g3⟩ := ex_vals HBB.out hil hjl' hn2 HSE.out HLE.out HO.out hI.1 hI.2.1 hI.2.2 hC hq1 hq2 hq3 hq4 hm2 hm4 hm6 ho1 ho2 ho3 hx0 hx1 hx2 hx3 ht0 ht1 ht2 ht3
                obtain ⟨a1, ha1⟩ : ∃ a, a = plc cm l q1 := ⟨_, rfl⟩
                obtain ⟨a2, ha2⟩ : ∃ a, a = plc cm l q2 := ⟨_, rfl⟩
                obtain ⟨a3, ha3⟩ : ∃ a, a = plc cm l q3 := ⟨_, rfl⟩
                obtain ⟨a4, ha4⟩ : ∃ a, a = plc cm l q4 := ⟨_, rfl⟩
                obtain ⟨b0, hb0⟩ : ∃ b, b = nthB bits t0 := ⟨_, rfl⟩
                obtain ⟨b1, hb1⟩ : ∃ b, b = nthB bits t1 := ⟨_, rfl⟩
                obtain ⟨b2, hb2⟩ : ∃ b, b = nthB bits t2 := ⟨_, rfl⟩
                obtain ⟨b3, hb3⟩ : ∃ b, b = nthB bits t3 := ⟨_, rfl⟩
                rw [← ha1, ← ha3, ← hb0] at g0
                rw [← ha3, ← ha2, ← hb1] at g1
                rw [← ha2, ← ha4, ← hb2] at g2
                rw [← ha4, ← ha1, ← hb3] at g3
                have HM0 := Lib.hid g0
                have HM1 := Lib.hid g1
                have HM2 := Lib.hid g2
                have HM3 := Lib.hid g3
                have HBS := Lib.hid (And.intro hb0 (And.intro hb1 (And.intro hb2 hb3)))
                have y1 : a1 < Wh := by rw [ha1, HWE.out]; exact plc_lt hs1
                have y2 : a2 < Wh := by rw [ha2, HWE.out]; exact plc_lt hs2
                have y3 : a3 < Wh := by rw [ha3, HWE.out]; exact plc_lt hs3
                have y4 : a4 < Wh := by rw [ha4, HWE.out]; exact plc_lt hs4
                have ha := Lib.hid (And.intro ha1 (And.intro ha2 (And.intro ha3 ha4)))
                have HSS := Lib.hid (And.intro hs1 (And.intro hs2 (And.intro hs3 hs4)))
                have HYY := Lib.hid (And.intro y1 (And.intro y2 (And.intro y3 y4)))
                clear hq1 hq2 hq3 hq4 hm2 hm4 hm6 ho1 ho2 ho3 hx0 hx1 hx2 hx3 ht0 ht1 ht2 ht3 ha1 ha2 ha3 ha4 hb0 hb1 hb2 hb3 g0 g1 g2 g3 hI hC hO hM hLs hs1 hs2 hs3 hs4 y1 y2 y3 y4 hjl' z1 z2 z3 z4 z5 z6 z7 z8 z9 z10 z11 z12 z13 z14 z15 z16 z17 z18 hns hjs HTT nb1 nb2 nb3 nb4 hN0 hN1 hN2 hN3
                as_aux_lemma =>
                  have HG0 := Lib.hid ((HE0.out.drew).get hWb2 a1 a3 HYY.out.1 HYY.out.2.2.1 b0 HM0.out)
                  have cx := HE0.out.place q1 HSS.out.1
                  have cy := HE0.out.place q3 HSS.out.2.2.1
                  rw [← ha.out.1] at cx
                  rw [← ha.out.2.2.1] at cy
                  have hold0 := HE0.out.drew.old t0 HIT0.out.2.2
                  have hfr0 := HE0.out.drew.raw.free t0
                  have HE1 := Lib.hid (HE0.out.drew.set_ t0 b0)
                  obtain ⟨fq1, rwq1⟩ := HZQ1.out
                  obtain ⟨fq3, rwq3⟩ := HZQ3.out
                  obtain ⟨fx0, rwx0⟩ := HZX0.out
                  obtain ⟨ft0, rwt0⟩ := HZT0.out
                  obtain ⟨dq1, eq1, nq1⟩ := HIQ1.out
                  obtain ⟨dq3, eq3, nq3⟩ := HIQ3.out
                  obtain ⟨dt0, et0, nt0⟩ := HIT0.out
                  obtain ⟨wd0, hwd0⟩ : ∃ x, x = wn.drew := ⟨_, rfl⟩
                  go_wp2_with fail
                  go_still_tail 21, (by kernel_rfl)
                  still_call (HG0.out)
                  repeat still_step
                  refine wpStill_nil ?_
                  change wpList _ _ _ _ _ wn.drew
                  rw [← hwd0] at hold0 hfr0 HE1 ⊢
                  clear hwd0 HG0 cx cy HE0
                  go_wp2_with fail
                  obtain ⟨wq1, hwq1⟩ : ∃ x, x = wd0.setCell ⟨Rw, t0, none⟩ (.bool b0) := ⟨_, rfl⟩
                  rw [← hwq1] at HE1 ⊢
                  clear hwq1 hold0 hfr0 fq1 rwq1 fq3 rwq3 fx0 rwx0 ft0 rwt0 dq1 eq1 nq1 dq3 eq3 nq3 dt0 et0 nt0
                  as_aux_lemma =>
                    have HG1 := Lib.hid ((HE1.out.drew).get hWb2 a3 a2 HYY.out.2.2.1 HYY.out.2.1 b1 HM1.out)
                    have cx := HE1.out.place q3 HSS.out.2.2.1
                    have cy := HE1.out.place q2 HSS.out.2.1
                    rw [← ha.out.2.2.1] at cx
                    rw [← ha.out.2.1] at cy
                    have hold1 := HE1.out.drew.old t1 HIT1.out.2.2
                    have hfr1 := HE1.out.drew.raw.free t1
                    have HE2 := Lib.hid (HE1.out.drew.set_ t1 b1)
                    obtain ⟨fq3, rwq3⟩ := HZQ3.out
                    obtain ⟨fq2, rwq2⟩ := HZQ2.out
                    obtain ⟨fm2, rwm2⟩ := HZM2.out
                    obtain ⟨fo1, rwo1⟩ := HZO1.out
                    obtain ⟨fx1, rwx1⟩ := HZX1.out
                    obtain ⟨ft1, rwt1⟩ := HZT1.out
                    obtain ⟨dq3, eq3, nq3⟩ := HIQ3.out
                    obtain ⟨dq2, eq2, nq2⟩ := HIQ2.out
                    obtain ⟨dt1, et1, nt1⟩ := HIT1.out
                    obtain ⟨wd1, hwd1⟩ : ∃ x, x = wq1.drew := ⟨_, rfl⟩
                    go_wp2_with fail
                    go_still_tail 24, (by kernel_rfl)
                    still_call (HG1.out)
                    repeat still_step
                    refine wpStill_nil ?_
                    change wpList _ _ _ _ _ wq1.drew
                    rw [← hwd1] at hold1 hfr1 HE2 ⊢
                    clear hwd1 HG1 cx cy HE1
                    go_wp2_with fail
                    obtain ⟨wq2, hwq2⟩ : ∃ x, x = wd1.setCell ⟨Rw, t1, none⟩ (.bool b1) := ⟨_, rfl⟩
                    rw [← hwq2] at HE2 ⊢
                    clear hwq2 hold1 hfr1 fq3 rwq3 fq2 rwq2 fm2 rwm2 fo1 rwo1 fx1 rwx1 ft1 rwt1 dq3 eq3 nq3 dq2 eq2 nq2 dt1 et1 nt1
                    as_aux_lemma =>
                      have HG2 := Lib.hid ((HE2.out.drew).get hWb2 a2 a4 HYY.out.2.1 HYY.out.2.2.2 b2 HM2.out)
                      have cx := HE2.out.place q2 HSS.out.2.1
                      have cy := HE2.out.place q4 HSS.out.2.2.2
                      rw [← ha.out.2.1] at cx
                      rw [← ha.out.2.2.2] at cy
                      have hold2 := HE2.out.drew.old t2 HIT2.out.2.2
                      have hfr2 := HE2.out.drew.raw.free t2
                      have HE3 := Lib.hid (HE2.out.drew.set_ t2 b2)
                      obtain ⟨fq2, rwq2⟩ := HZQ2.out
                      obtain ⟨fq4, rwq4⟩ := HZQ4.out
                      obtain ⟨fm4, rwm4⟩ := HZM4.out
                      obtain ⟨fo2, rwo2⟩ := HZO2.out
                      obtain ⟨fx2, rwx2⟩ := HZX2.out
                      obtain ⟨ft2, rwt2⟩ := HZT2.out
                      obtain ⟨dq2, eq2, nq2⟩ := HIQ2.out
                      obtain ⟨dq4, eq4, nq4⟩ := HIQ4.out
                      obtain ⟨dt2, et2, nt2⟩ := HIT2.out
                      obtain ⟨wd2, hwd2⟩ : ∃ x, x = wq2.drew := ⟨_, rfl⟩
                      go_wp2_with fail
                      go_still_tail 24, (by kernel_rfl)
                      still_call (HG2.out)
                      repeat still_step
                      refine wpStill_nil ?_
                      change wpList _ _ _ _ _ wq2.drew
                      rw [← hwd2] at hold2 hfr2 HE3 ⊢
                      clear hwd2 HG2 cx cy HE2
                      go_wp2_with fail
                      obtain ⟨wq3, hwq3⟩ : ∃ x, x = wd2.setCell ⟨Rw, t2, none⟩ (.bool b2) := ⟨_, rfl⟩
                      rw [← hwq3] at HE3 ⊢
                      clear hwq3 hold2 hfr2 fq2 rwq2 fq4 rwq4 fm4 rwm4 fo2 rwo2 fx2 rwx2 ft2 rwt2 dq2 eq2 nq2 dq4 eq4 nq4 dt2 et2 nt2
                      as_aux_lemma =>
                        have HG3 := Lib.hid ((HE3.out.drew).get hWb2 a4 a1 HYY.out.2.2.2 HYY.out.1 b3 HM3.out)
                        have cx := HE3.out.place q4 HSS.out.2.2.2
                        have cy := HE3.out.place q1 HSS.out.1
                        rw [← ha.out.2.2.2] at cx
                        rw [← ha.out.1] at cy
                        have hold3 := HE3.out.drew.old t3 HIT3.out.2.2
                        have hfr3 := HE3.out.drew.raw.free t3
                        have HE4 := Lib.hid (HE3.out.drew.set_ t3 b3)
                        obtain ⟨fq4, rwq4⟩ := HZQ4.out
                        obtain ⟨fq1, rwq1⟩ := HZQ1.out
                        obtain ⟨fm6, rwm6⟩ := HZM6.out
                        obtain ⟨fo3, rwo3⟩ := HZO3.out
                        obtain ⟨fx3, rwx3⟩ := HZX3.out
                        obtain ⟨ft3, rwt3⟩ := HZT3.out
                        obtain ⟨dq4, eq4, nq4⟩ := HIQ4.out
                        obtain ⟨dq1, eq1, nq1⟩ := HIQ1.out
                        obtain ⟨dt3, et3, nt3⟩ := HIT3.out
                        obtain ⟨wd3, hwd3⟩ : ∃ x, x = wq3.drew := ⟨_, rfl⟩
                        go_wp2_with fail
                        go_still_tail 24, (by kernel_rfl)
                        still_call (HG3.out)
                        repeat still_step
                        refine wpStill_nil ?_
                        change wpList _ _ _ _ _ wq3.drew
                        rw [← hwd3] at hold3 hfr3 HE4 ⊢
                        clear hwd3 HG3 cx cy HE3
                        go_wp2_with fail
                        obtain ⟨wq4, hwq4⟩ : ∃ x, x = wd3.setCell ⟨Rw, t3, none⟩ (.bool b3) := ⟨_, rfl⟩
                        rw [← hwq4] at HE4 ⊢
                        clear hwq4 hold3 hfr3 fq4 rwq4 fq1 rwq1 fm6 rwm6 fo3 rwo3 fx3 rwx3 ft3 rwt3 dq4 eq4 nq4 dq1 eq1 nq1 dt3 et3 nt3
                        as_aux_lemma =>
                          have HE5 : Hid (ExS cm l N Wh w wq4 P Rw p g ws (fun t' => vis o M (cj + (n + 1)) t' && nthB bits t')) := Lib.hid (HE4.out.congr (fun t _ => by
                            obtain ⟨z0, z1, z2, z3, zl⟩ := HT.out
                            obtain ⟨v0, v1, v2, v3⟩ := HBS.out
                            have := vis_step o M (cj + n) zl (nthB bits) t
                            rw [← z0, ← z1, ← z2, ← z3, ← v0, ← v1, ← v2, ← v3] at this
                            exact this))
                          clear HE4
                          go_roundw
                          case rel => exact ⟨n + 1, by omega, by go_num, HE5⟩
                          case measure => simp [intOf]; omega
              · obtain rfl : n = 2 := by omega
                have HE9 : Hid (ExS cm l N Wh w wn P Rw p g ws (fun t' => vis o M (2 * (j + 1)) t' && nthB bits t')) := Lib.hid (by
                  have := HE0.out
                  rw [HCJ.out, show j * 2 + 2 = 2 * (j + 1) by omega] at this
                  exact this)
                clear HE0
                go_wp2_with fail
                go_roundw
                case rel => exact ⟨j + 1, by omega, by go_num, HE9⟩
                case measure => simp [intOf]; omega
          · obtain rfl : j = L := by omega
            have hkk : ((j : Int) < (j : Int)) = False := by simp
            obtain ⟨o9, ho9⟩ : ∃ x, x = o + j * 8 := ⟨_, rfl⟩
            obtain ⟨j8, hj8⟩ : ∃ x, x = j * 8 := ⟨_, rfl⟩
            have u1 : (j : Int) * 8 = (j8 : Int) := by omega
            have u2 : (o : Int) + (j8 : Int) = (o9 : Int) := by omega
            have hob : o9 ≤ N := by have := HOL.out; omega
            have HO9 : Hid (o9 = off cm l (i + 1)) := Lib.hid (by show o9 = off cm l i + 8 * lng cm l i; rw [← HLE.out, ← HO.out]; omega)
            have HE9 : Hid (ExS cm l N Wh w wj P Rw p g ws (fun t' => decide (t' < o9) && nthB bits t')) := Lib.hid (HEJ.out.congr (fun t _ => by
              rw [← HM.out, vis_all, HM.out, show o + 4 * (2 * j) = o9 by omega]))
            clear HEJ ho9 hj8
            go_wp2_with fail
            go_roundw
            case rel => exact ⟨i + 1, o9, by omega, by go_num, by go_num, HO9, HE9⟩
            case measure => simp [intOf]; omega
    · obtain rfl : i = l := by omega
      have hkk : ((i : Int) < (i : Int)) = False := by simp
      have HRD : Hid (Rd wo (some ⟨Rw, 0, none⟩) N (fun j => .bool (nthB bits j))) := Lib.hid (by
        have h1 := HEo.out.raw.rd (fun j => .bool (nthB bits j)) (fun j hj => by
          rw [rowV_len] at hj
          rw [rowV_get _ _ _ hj, HO.out, ← HBO.out, decide_eq_true hj, Bool.true_and])
        rw [rowV_len] at h1
        exact h1)
      have HBE := Lib.hid HEo.out.be
      clear HEo
      go_wp2_with fail
      go_ret
      exact ⟨Rw, rfl, HRD, HBE⟩
end Go.Proofs.YtiielblnmfeapaaGreatDoor

