/-
  The symbol's modules after the reference, walked. No condition beyond the bounds that each theorem states.
-/
import Derived.Test.YthkiajighmhdoaaQLP
import Derived.Test.YthkiajighmhdoaaQLG
import Derived.Test.YthkiajighmhdoaaQKY
import Derived.StillTailTactics
namespace Go.Proofs.Ythkiajighmhdoaa
open Go.RowKit Go.Qz Go.Qz.QK Go.Qz.QW
set_option linter.unusedVariables false

theorem way_rd {w : World} {base : Nat} {e : TypeId} {v : Value} {n : Nat} {xs : List Value} (h : w.ownsRow base e 2 v n xs) :
    ∃ A0 c0, v = .slice A0 n c0 ∧ (0 < n → ∃ g, A0 = some ⟨g, 0, none⟩ ∧ base ≤ g ∧ g < w.heap.size ∧ ∀ (j : Nat) (u : Value), xs[j]? = some u → w.cell? ⟨g, j, none⟩ = some u) := by
  have hc := fun g hg => h.cells (g := g) hg
  have hl := h.lt
  rcases h.2 with ⟨rfl, rfl⟩ | ⟨g, cap, cur, rfl, hb, _⟩
  · exact ⟨none, 0, rfl, fun h0 => absurd h0 (by omega)⟩
  · exact ⟨some ⟨g, 0, none⟩, cap, rfl, fun _ => ⟨g, rfl, hb, (hl g rfl).2, fun j u hu => by
      have := hc g rfl j u hu
      rwa [Addr.add_lit, Nat.zero_add] at this⟩⟩
theorem mod_cell' {S : Nat → Prop} {w w' : World} (h : Mod S w w') {p : Addr} (hp : p.block < w.heap.size) (hs : ¬ S p.block) : w'.cell? p = w.cell? p := by
  unfold World.cell?
  rw [h.block _ hp hs]
/-- The blocks of a grid's rows. -/
def RowsS (G n : Nat) (j : Nat) : Prop := G < j ∧ j ≤ G + n
set_option maxRecDepth 100000 in
set_option maxHeartbeats 6400000 in
theorem sModules (A : Option Addr) (L cap v l m d : Nat) (z : Nat → Bool) (hL : L ≤ 2147483647) (hd : d = l * 8 + m) (hl : l < 4) (hm8 : m < 8) (h1 : 1 ≤ v) (h2 : v ≤ 40) (w : World) (hR : Rd w A L (fun j => .bool (z j))) :
    Calls Try.prog 17 #[.slice A L cap, .int .i64 v, .int .i64 l, .int .i64 m] w
      (GrdPost (dimOf v) (sl (dimOf v) (gvB v) (patB v d) (vbM m L z) (wy (dimOf v) (gvB v) ((dimOf v - 1) * dimOf v)).length) w) := by
  obtain ⟨n, hnv⟩ : ∃ n, n = dimOf v := ⟨_, rfl⟩
  have hn : n ≤ 200 := by rw [hnv]; unfold dimOf; omega
  have hn21 : 21 ≤ n := by rw [hnv]; unfold dimOf; omega
  have ho : n % 2 = 1 := by rw [hnv]; unfold dimOf; omega
  have HPA := Lib.hid (sPatterns v l m d hd hl hm8 h1 h2 w)
  have HWA := Lib.hid (fun W => sWay v h1 h2 W)
  unfold WayPost at HWA
  rw [← hnv] at HPA HWA ⊢
  obtain ⟨gv, hgv⟩ : ∃ gv, gv = gvB v := ⟨_, rfl⟩
  rw [← hgv] at HWA ⊢
  obtain ⟨F, hF⟩ : ∃ F, F = patB v d := ⟨_, rfl⟩
  rw [← hF] at HPA ⊢
  have hwl := wy_len n gv ((n - 1) * n)
  have hnn : (n - 1) * n ≤ 200 * 200 := Nat.mul_le_mul (by omega) hn
  obtain ⟨ws, hws⟩ : ∃ ws, ws = wy n gv ((n - 1) * n) := ⟨_, rfl⟩
  rw [← hws] at HWA hwl ⊢
  obtain ⟨T, hT⟩ : ∃ T, T = ws.length := ⟨_, rfl⟩
  rw [← hT] at HWA hwl ⊢
  have hT4 : T ≤ 40000 := by omega
  have HW := Lib.hid hws
  have HT := Lib.hid hT
  have HO := Lib.hid ho
  have HRB := Lib.hid hR
  have HAP : Hid (∀ a, A = some a → 0 < L → a.block < w.heap.size) := Lib.hid (fun a h0 h1 => by
    obtain ⟨b, off, e, hb, _⟩ := hR h1
    rw [h0] at e
    injection e with e
    rw [e]; exact hb)
  clear hws hT hnn hwl hF hgv hnv h1 h2 hd ho hR hl
  go_enter Try.func17, Try.ntmps17
  go_wp2_with fail
  refine HPA.out.mono ?_
  rintro e w2 ⟨G, rfl, HG, HB2, HGW, HGL⟩
  clear HPA
  go_wp2_with fail
  refine (HWA.out _).mono ?_
  rintro e w3 ⟨x, rfl, HOW, HB3⟩
  clear HWA
  obtain ⟨A0, c0, rfl, hrd⟩ := way_rd HOW.out
  have HRD := Lib.hid hrd
  have HG3 : Hid (Grid w3 26 4 G n n n (fun r c => .bool (sl n gv F (vbM m L z) 0 r c))) := Lib.hid (by
    rw [sl_zero]
    exact HG.out.below HB3.out)
  have HRB3 : Hid (Rd w3 A L (fun j => .bool (z j))) := Lib.hid ((HRB.out.below HB2.out).below (HB3.out.mono (Nat.le_refl _)))
  have HGL3 : Hid (G + n < w2.heap.size) := HGL
  clear hrd HOW HG HRB
  go_wp2_with fail
  go_loopw [20] (fun i wr => ∃ k : Nat, k ≤ T ∧ i = .int .i64 k ∧ Hid (Grid wr 26 4 G n n n (fun r c => .bool (sl n gv F (vbM m L z) k r c))) ∧ Hid (Mod (RowsS G n) w3 wr)) (fun i _ => T - (intOf i).toNat)
  case atStart => exact ⟨0, by omega, rfl, HG3, Lib.hid (Mod.refl _)⟩
  case round =>
    obtain ⟨k, hk, rfl, HG4, HM4⟩ := hrel
    obtain ⟨wi, hwi⟩ : ∃ wi, wi = wr := ⟨_, rfl⟩
    rw [← hwi] at HG4 HM4 ⊢
    clear hwi HG3
    by_cases hlt : k < T
    · have hk1 : (k : Int) < (T : Int) := by omega
      have hk0 : (0 : Int) ≤ (k : Int) := by omega
      obtain ⟨⟨r, c⟩, hx⟩ : ∃ x, ws[k]? = some x := ⟨_, List.getElem?_eq_getElem (by rw [← HT.out]; exact hlt)⟩
      have hx2 := hx
      rw [HW.out] at hx2
      have hrc := wy_fine HO.out hn21 hx2
      obtain ⟨hrn, hcn⟩ := hrc
      simp only at hrn hcn
      have HSS := Lib.hid (fun (r' c' : Nat) (hr : r' < n) (hc : c' < n) => sl_set (B := F) (val := vbM m L z) HO.out hn21 (by rw [← HW.out, ← HT.out]; exact hlt) hx2 hr hc)
      obtain ⟨g, rfl, hg1, hg2, hgc⟩ := HRD.out (by omega)
      have hgs : ¬ RowsS G n g := by unfold RowsS; have := HGL3.out; omega
      have hgl : g < wi.heap.size := Nat.lt_of_lt_of_le hg2 HM4.out.size
      obtain ⟨hw0, hw1⟩ := wcs_at ws k (r, c) hx
      have c0 : wi.cell? ⟨g, k * 2, none⟩ = some (.int .i64 (r : Nat)) := by
        rw [mod_cell' HM4.out (p := ⟨g, k * 2, none⟩) hg2 hgs]
        exact hgc _ _ (by rw [Nat.mul_comm]; exact hw0)
      have c1 : wi.cell? ⟨g, k * 2 + 1, none⟩ = some (.int .i64 (c : Nat)) := by
        rw [mod_cell' HM4.out (p := ⟨g, k * 2 + 1, none⟩) hg2 hgs]
        exact hgc _ _ (by rw [Nat.mul_comm]; exact hw1)
      have hr0 : (0 : Int) ≤ (r : Int) := by omega
      have hr1 : (r : Int) < (n : Int) := by omega
      have hci0 : (0 : Int) ≤ (c : Int) := by omega
      have hci1 : (c : Int) < (n : Int) := by omega
      have HRB4 : Hid (Rd wi A L (fun j => .bool (z j))) := Lib.hid (Mod.rd HRB3.out HM4.out (fun a h0 h1 hh => by
        have h2 := HAP.out a h0 h1
        have h3 := HGW.out
        exact absurd hh.1 (by omega)))
      clear hx hx2 hgc hw0 hw1 hgs hg1 hg2
      go_upto_region 5 with (fail)
      obtain ⟨D, hD⟩ : ∃ D, D = wi.heap.size := ⟨_, rfl⟩
      obtain ⟨W5, hW5⟩ : ∃ W5, W5 = wi.alloc (.cells #[.int .i64 (r : Nat), .int .i64 (c : Nat)] 84) := ⟨_, rfl⟩
      have d0 : W5.cell? ⟨D, 0, none⟩ = some (.int .i64 (r : Nat)) := by rw [hW5, World.cell?_alloc_at _ _ _ _ hD]; rfl
      have d1 : W5.cell? ⟨D, 1, none⟩ = some (.int .i64 (c : Nat)) := by rw [hW5, World.cell?_alloc_at _ _ _ _ hD]; rfl
      have HRB5 : Hid (Rd W5 A L (fun j => .bool (z j))) := Lib.hid (by rw [hW5]; exact HRB4.out.alloc _)
      have HM5 : Hid (Mod (RowsS G n) w3 W5) := Lib.hid (by rw [hW5]; exact HM4.out.alloc _)
      have HG5 : Hid (Grid W5 26 4 G n n n (fun r c => .bool (sl n gv F (vbM m L z) k r c))) := Lib.hid (by
        rw [hW5]; exact HG4.out.below ((Below.refl _ _).alloc (Nat.le_refl _) _))
      rw [← hD, ← hW5]
      obtain ⟨bv, hbv⟩ : ∃ bv, bv = (decide (k < L) && z k) := ⟨_, rfl⟩
      have HBV := Lib.hid hbv
      clear hD hW5 HRB4 HM4 HG4 c0 c1 hbv
      go_cut [12] (fun a wx => W5 = wx ∧ a = .bool bv)
      case first =>
        by_cases hkL : k < L
        · have hkL1 : (k : Int) < (L : Int) := by omega
          obtain ⟨b, off, rfl, hb, hcz⟩ := HRB5.out (by omega)
          have cz : W5.cell? ⟨b, off + k, none⟩ = some (.bool (z k)) := hcz k hkL
          have hbz : bv = z k := by rw [HBV.out, decide_eq_true hkL, Bool.true_and]
          clear hcz
          subst hbz
          go_wp2_with fail
          go_meet
          case rel => exact ⟨rfl, rfl⟩
        · have hkL1 : ((k : Int) < (L : Int)) = False := by simp; omega
          have hbz : bv = false := by rw [HBV.out, decide_eq_false hkL, Bool.false_and]
          subst hbz
          go_wp2_with fail
          go_meet
          case rel => exact ⟨rfl, rfl⟩
      case rest =>
        obtain ⟨rfl, rfl⟩ := hcut
        have e0 := HG5.out.head r hrn hrn
        have e1 := HG5.out.cell r c hrn hcn
        have hf := (HG5.out.row r hrn).free c
        obtain ⟨oz, hoz⟩ : ∃ oz, oz = sl n gv F (vbM m L z) k r c := ⟨_, rfl⟩
        rw [← hoz] at e1
        obtain ⟨y, hy⟩ : ∃ y, y = mkB m c r := ⟨_, rfl⟩
        have HMK := Lib.hid ((maskS m c r hm8 (by omega) (by omega) W5.drew).mono (R' := fun en w' => en = .returned (.bool y) ∧ w' = W5.drew) (fun _ _ h => ⟨by rw [hy]; exact h.1, h.2.symm⟩))
        obtain ⟨u, hu⟩ : ∃ u, u = (!bv == y) := ⟨_, rfl⟩
        have hu2 : (bv != y) = u := by rw [hu]; rfl
        have HG6 := Lib.hid ((show Grid W5.drew 26 4 G n n n (fun r c => .bool (sl n gv F (vbM m L z) k r c)) from ⟨HG5.out.hd.keep rfl, fun r hr => (HG5.out.row r hr).keep rfl⟩).set_ (g := fun r c => .bool (sl n gv F (vbM m L z) (k + 1) r c)) r c hrn (.bool u) (fun r' c' hr hc => by
          rw [HSS.out r' c' hr hc]
          by_cases e : r' = r ∧ c' = c
          · rw [if_pos e, if_pos e, e.1, e.2]
            unfold vbM
            rw [← HBV.out, ← hy, hu2]
          · rw [if_neg e, if_neg e]))
        have HM6 : Hid (Mod (RowsS G n) w3 (W5.drew.setCell ⟨G + 1 + r, c, none⟩ (.bool u))) := Lib.hid (HM5.out.drew.setCell (p := ⟨G + 1 + r, c, none⟩) (.inl ⟨show G < G + 1 + r by omega, show G + 1 + r ≤ G + n by omega⟩) _)
        rw [hu] at HG6 HM6
        clear hoz hy HG5 HM5 HSS HBV HRB5 hu hu2
        go_upto_region 6 with (fail)
        go_still_tail 16, (by kernel_rfl)
        repeat still_step
        still_call (HMK.out)
        repeat still_step
        try refine wpStill_nil ?_
        change wpList _ _ _ _ _ W5.drew
        have e2 : W5.drew.cell? ⟨G + 1 + r, c, none⟩ = some (.bool oz) := e1
        have hf2 : W5.drew.frozen? ⟨G + 1 + r, c, none⟩ = false := hf
        obtain ⟨W9, hW9⟩ : ∃ W9, W9 = W5.drew := ⟨_, rfl⟩
        rw [← hW9] at e2 hf2 HG6 HM6 ⊢
        clear hW9 HMK e0 e1 hf d0 d1
        go_wp2_with fail
        go_roundw
        case rel => exact ⟨k + 1, by omega, by go_num, HG6, HM6⟩
        case measure => simp [intOf]; omega
    · obtain rfl : k = T := by omega
      have HBF : Hid (Below w.heap.size w wi) := Lib.hid ((HB2.out.trans (HB3.out.mono HB2.out.size)).trans (HM4.out.below (Nat.le_trans HB2.out.size HB3.out.size) (fun j hj => by have := HGW.out; exact Nat.le_trans this (Nat.le_of_lt hj.1))))
      have HGF : Hid (G + n < wi.heap.size) := Lib.hid (by have := HM4.out.size; have := HB3.out.size; have := HGL3.out; omega)
      go_wp2_with fail
      go_ret
      exact ⟨G, rfl, HG4, HBF, HGW, HGF⟩
end Go.Proofs.Ythkiajighmhdoaa
