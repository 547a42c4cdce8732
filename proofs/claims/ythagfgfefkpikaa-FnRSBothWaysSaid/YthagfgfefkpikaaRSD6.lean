/-
  PolyOver, RSZero, rsIn, walked. No condition beyond the bounds that each theorem states.
-/
import Derived.Test.YthagfgfefkpikaaRSD4
import Derived.Test.YthagfgfefkpikaaRSQ
import Derived.BigQuiet
namespace Go.Proofs.Ythagfgfefkpikaa
open Go.RowKit Go.Qz Go.Qz.RS
set_option linter.unusedVariables false

theorem fcells {w : World} {H : Nat} {F : Fld} (h : Arr w 23 H [.int .i64 F.prim, .int .i64 F.size, .int .i64 F.base]) :
    w.cell? ⟨H, 0, none⟩ = some (.int .i64 F.prim) ∧ w.cell? ⟨H, 1, none⟩ = some (.int .i64 F.size) ∧ w.cell? ⟨H, 2, none⟩ = some (.int .i64 F.base) := by
  have d0 := h.cell? 0
  have d1 := h.cell? 1
  have d2 := h.cell? 2
  simp only [List.getElem?_cons_zero, List.getElem?_cons_succ] at d0 d1 d2
  exact ⟨d0, d1, d2⟩

set_option maxRecDepth 100000 in
set_option maxHeartbeats 1600000 in
theorem rsZero (l : List Nat) (hl : l ≠ []) (hn : l.length < 1000000) (A : Option Addr) (c : Nat) (z : Bool) (hz : z = decide (l = [0])) (w : World) (h : Rd w A l.length (fun j => .int .i64 (nth l j : Nat))) :
    Calls Try.prog 23 #[.slice A l.length c] w fun e w' => e = .returned (.bool z) ∧ w = w' := by
  have hp := List.length_pos_iff.2 hl
  obtain ⟨b, off, rfl, hb, hc⟩ := h hp
  have c0 := hc 0 hp
  rw [Nat.add_zero] at c0
  dsimp only at c0
  clear h hc
  by_cases h1 : l.length = 1
  · by_cases h0 : nth l 0 = 0
    · have hz2 : z = true := by
        rw [hz]; simp only [decide_eq_true_eq]
        apply List.ext_getElem (by simpa using h1)
        intro i hi1 hi2
        have : i = 0 := by omega
        subst this
        rw [← nth_eq hi1, h0]; rfl
      subst hz2
      clear hz
      rw [h0] at c0
      rw [h1]
      clear h1 h0 hp hn
      go_enter Try.func23, Try.ntmps23
      go_wp2_with fail
      go_ret
      exact ⟨rfl, rfl⟩
    · have hz2 : z = false := by
        rw [hz]; simp only [decide_eq_false_iff_not]
        intro e; rw [e] at h0; exact h0 rfl
      subst hz2
      clear hz
      have h2 : (((nth l 0 : Nat) : Int) == 0) = false := by simpa using h0
      rw [h1]
      clear h1 h0 hp hn
      go_enter Try.func23, Try.ntmps23
      go_wp2_with fail
      go_ret
      exact ⟨rfl, rfl⟩
  · have hz2 : z = false := by
      rw [hz]; simp only [decide_eq_false_iff_not]
      intro e; rw [e] at h1; exact h1 rfl
    subst hz2
    clear hz
    have h2 : ((l.length : Int) == 1) = false := by simp; omega
    clear h1
    go_enter Try.func23, Try.ntmps23
    go_wp2_with fail
    go_ret
    exact ⟨rfl, rfl⟩

set_option maxRecDepth 100000 in
set_option maxHeartbeats 1600000 in
theorem rsIn (F : Fld) (hF : Six F) (l : List Nat) (hn : l.length < 1000000) (he : El F l) (A : Option Addr) (c : Nat) (w : World) (h : Rd w A l.length (fun j => .int .i64 (nth l j : Nat))) :
    Calls Try.prog 24 #[fv F, .slice A l.length c] w fun e w' => e = .returned (.bool true) ∧ Below w.heap.size w w' := by
  have hs := hF.bounds
  have hAr : Arr (w.alloc (.cells #[.int .i64 F.prim, .int .i64 F.size, .int .i64 F.base] 23)) 23 w.heap.size [.int .i64 F.prim, .int .i64 F.size, .int .i64 F.base] := Arr.new _ _ _
  have hb0 : Below w.heap.size w (w.alloc (.cells #[.int .i64 F.prim, .int .i64 F.size, .int .i64 F.base] 23)) := (Below.refl _ _).alloc (Nat.le_refl _) _
  have HR := Lib.hid h
  have HE := Lib.hid he
  clear h he
  unfold fv
  go_enter Try.func24, Try.ntmps24
  go_wp2_with fail
  obtain ⟨H, hH⟩ : ∃ H, H = w.heap.size := ⟨_, rfl⟩
  rw [← hH] at hAr hb0 ⊢
  have HH := Lib.hid hH
  clear hH
  go_loopw [5] (fun i wr => ∃ k : Nat, k ≤ l.length ∧ i = .int .i64 k ∧ Arr wr 23 H [.int .i64 F.prim, .int .i64 F.size, .int .i64 F.base] ∧ Below H w wr) (fun i _ => l.length - (intOf i).toNat)
  case atStart => exact ⟨0, by omega, rfl, hAr, hb0⟩
  case round =>
    obtain ⟨k, hk, rfl, hA2, hB2⟩ := hrel
    clear hAr hb0
    by_cases hlt : k < l.length
    · obtain ⟨b, off, rfl, hb, hc⟩ := HR.out (by omega)
      have hck := (hB2.cell (p := ⟨b, off + k, none⟩) (by rw [HH.out]; exact hb)).trans (hc k hlt)
      obtain ⟨a0, a1, a2⟩ := fcells hA2
      dsimp only at hck
      have hel := HE.out k
      obtain ⟨x, hx⟩ : ∃ x, x = nth l k := ⟨_, rfl⟩
      rw [← hx] at hck hel
      have g1 : decide ((x : Int) < 0) = false := by simp
      have g2 : decide ((F.size : Int) ≤ (x : Int)) = false := by simp; omega
      have g3 : decide (F.size ≤ x) = false := by simp; omega
      have hk0 : (0 : Int) ≤ (k : Int) := by omega
      have hk1 : (k : Int) < (l.length : Int) := by omega
      have HA2 := Lib.hid hA2
      have HB2 := Lib.hid hB2
      clear hA2 hB2 hc hx
      go_wp2_with fail
      go_quiet (fail)
      go_wp2_with fail
      go_roundw
      case rel => exact ⟨k + 1, by omega, by go_num, HA2.out.mod (Mod.drewN (Mod.refl (S := fun _ => False) _) _) (fun h => h), below_drewN HB2.out _⟩
      case measure => simp [intOf]; omega
    · obtain rfl : k = l.length := by omega
      go_wp2_with fail
      go_ret
      exact ⟨rfl, by rw [← HH.out]; exact hB2⟩

set_option maxRecDepth 100000 in
set_option maxHeartbeats 1600000 in
theorem polyOverNo (F : Fld) (hF : Six F) (a : List Nat) (ha : a ≠ []) (hal : a.length < 10000) (A B : Option Addr) (c d : Nat) (w : World) (hA : SlQ w (fun _ => True) A a c) (hB : SlQ w (fun _ => True) B [0] d) :
    Calls Try.prog 22 #[fv F, .slice A a.length c, .slice B 1 d] w fun e w' => e = .returned (.tuple #[.slice none 0 0, .slice none 0 0, .bool false]) ∧ Below w.heap.size w w' := by
  have hb0 : Below w.heap.size w (w.alloc (.cells #[.int .i64 F.prim, .int .i64 F.size, .int .i64 F.base] 23)) := (Below.refl _ _).alloc (Nat.le_refl _) _
  have HT := implTwo F hF a [0] ha (by simp) (by omega) (by simp) A B c d (w.alloc (.cells #[.int .i64 F.prim, .int .i64 F.size, .int .i64 F.base] 23)) (hA.below hb0) (hB.below hb0)
  have h1 : ([0] : List Nat).length = 1 := rfl
  rw [h1] at HT
  clear hA hB h1
  unfold fv at HT ⊢
  have HT := Lib.hid HT
  go_enter Try.func22, Try.ntmps22
  go_wp2_with fail
  refine HT.out.mono ?_
  rintro e w1 ⟨p, q, f, rfl, hb1, _, hp, hq⟩
  have hb1' := hb0.trans (hb1.mono (by simp))
  have hneq : ∀ W, (binOp .neq 58 .nilIface .nilIface).run Try.prog W = .ok (.bool false) W := fun W => rfl
  have HD := Lib.hid (polyDivZero p q f (tidy a) w1 hp hq)
  clear hb0 hb1 hp hq HT
  go_wp2_with fail
  refine HD.out.mono ?_
  rintro e w2 ⟨x, rfl, ⟨b, rfl⟩, hb2⟩
  have hneq2 : ∀ W, (binOp .neq 58 (.iface 105 (.pointer (some ⟨b, 0, none⟩))) .nilIface).run Try.prog W = .ok (.bool true) W := fun W => run_neq_held_nil W _ _ _ errIface
  go_wp2_with fail
  go_ret3
  exact ⟨rfl, hb1'.trans (hb2.mono hb1'.size)⟩

set_option maxRecDepth 100000 in
set_option maxHeartbeats 1600000 in
theorem polyOver (F : Fld) (hF : Six F) (a b : List Nat) (ha : a ≠ []) (hb : b ≠ []) (hta : tidy a = a) (htb : tidy b = b) (hae : El F a) (hbe : El F b) (hal : a.length < 10000) (hbl : b.length < 10000) (hb0 : b ≠ [0]) (A B : Option Addr) (c d : Nat) (w : World) (hA : SlQ w (fun _ => True) A a c) (hB : SlQ w (fun _ => True) B b d) :
    Calls Try.prog 22 #[fv F, .slice A a.length c, .slice B b.length d] w fun e w' => ∃ A1 c1 A2 c2 lq lr, e = .returned (.tuple #[.slice A1 lq.length c1, .slice A2 lr.length c2, .bool true]) ∧ Below w.heap.size w w' ∧
      SlQ w' (fun _ => True) A1 lq c1 ∧ SlQ w' (fun _ => True) A2 lr c2 ∧ Dv F a b lq lr ∧ (lr.length < b.length ∨ lr = [0]) := by
  have hbf : Below w.heap.size w (w.alloc (.cells #[.int .i64 F.prim, .int .i64 F.size, .int .i64 F.base] 23)) := (Below.refl _ _).alloc (Nat.le_refl _) _
  have HT := implTwo F hF a b ha hb (by omega) (by omega) A B c d (w.alloc (.cells #[.int .i64 F.prim, .int .i64 F.size, .int .i64 F.base] 23)) (hA.below hbf) (hB.below hbf)
  rw [hta, htb] at HT
  have HDIV := Lib.hid (fun p q f W hp hq hg => polyDiv F hF p q f a b hal hbl hae hbe hta htb hb0 W hp hq hg)
  clear hA hB hta htb hae hbe hb0
  unfold fv at HT ⊢
  have HT := Lib.hid HT
  go_enter Try.func22, Try.ntmps22
  go_wp2_with fail
  refine HT.out.mono ?_
  rintro e w1 ⟨p, q, f, rfl, hb1, hg, hp, hq⟩
  have hb1' := hbf.trans (hb1.mono (by simp))
  have hneq : ∀ W, (binOp .neq 58 .nilIface .nilIface).run Try.prog W = .ok (.bool false) W := fun W => rfl
  have HD := Lib.hid (HDIV.out p q f w1 hp hq hg)
  clear hbf hb1 hp hq hg HT HDIV
  go_wp2_with fail
  refine HD.out.mono ?_
  rintro e w2 ⟨pq, pr, lq, lr, rfl, hb2, hpq, hpr, hdv, hor⟩
  have hb2' := hb1'.trans (hb2.mono hb1'.size)
  have hql := hdv.ql
  have hrl := hdv.rl
  have HV := Lib.hid hdv
  have HO := Lib.hid hor
  have HPR := Lib.hid hpr
  have HL := Lib.hid (implList (fun _ => True) pq f lq w2 hpq (by omega))
  clear hb2 hb1' hdv hor hpq hpr HD
  go_wp2_with fail
  refine HL.out.mono ?_
  rintro e w3 ⟨v, rfl, hown, hb3⟩
  obtain ⟨A1, c1, rfl, _, _, _, hsl⟩ := slq_of_own (Q := fun _ => True) hown (fun _ _ => trivial)
  have HS1 := Lib.hid hsl
  have HL2 := Lib.hid (implList (fun _ => True) pr f lr w3 (HPR.out.below hb3) (by omega))
  have hb3' := hb2'.trans (hb3.mono hb2'.size)
  clear hown hsl HL hb3 hb2'
  go_wp2_with fail
  refine HL2.out.mono ?_
  rintro e w4 ⟨v, rfl, hown, hb4⟩
  obtain ⟨A2, c2, rfl, _, _, _, hsl⟩ := slq_of_own (Q := fun _ => True) hown (fun _ _ => trivial)
  have HS2 := Lib.hid hsl
  have HS14 := Lib.hid (HS1.out.below hb4)
  clear hown hsl HL2
  go_wp2_with fail
  go_ret3
  exact ⟨A1, c1, A2, c2, lq, lr, rfl, hb3'.trans (hb4.mono hb3'.size), HS14.out, HS2.out, HV.out, HO.out⟩
end Go.Proofs.Ythagfgfefkpikaa
