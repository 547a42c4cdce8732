/-
  Where a picture shows its modules: rdBox, walked. No condition beyond the bounds that each theorem states.
-/
import Derived.Test.YtfnfikmijkeimaaRDE
import Derived.Test.YtfnfikmijkeimaaGRD
import Derived.BigQuiet
import Derived.BigRegion
import Derived.Great.Walk
import Derived.StillTailTactics
import Derived.Test.YtfnfikmijkeimaaCPM
namespace Go.Proofs.Ytfnfikmijkeimaa
open Go.RowKit Go.Qz
set_option linter.unusedVariables false

def BoxOk (B H W : Nat) (l : Nat → Nat) : Prop := 1 ≤ B ∧ B ≤ 6 ∧ B * H ≤ 400 ∧ B * W ≤ 400 ∧ ∀ i, i < 4 → B ≤ l i ∧ l i < 7 * B
def BoxPost (H W : Nat) (w : World) (e : Ending) (w' : World) : Prop := ∃ (B : Nat) (l : Nat → Nat), e = .returned (.tuple #[.int .i64 B, .agg (rowV (fun i => .int .i64 (l i : Nat)) 4).toArray]) ∧ Hid (BoxOk B H W l) ∧ Below w.heap.size w w'
theorem Try.zeroA4 : (Try.prog.info? 30).map (fun i => (i.zero, i.size)) = some (some (.agg #[.int .i64 0, .int .i64 0, .int .i64 0, .int .i64 0]), 4) := by kernel_rfl
def row4 (l : Nat → Nat) : List Value := rowV (fun i => .int .i64 (l i : Nat)) 4

theorem results_cell2 {P : Program} {fn : Func} {p q : Tmp} {ty tq : TypeId} (h : fn.results = #[.tmp q, .cell p ty]) (tmps : Array Value) (w : World) (g1 : Nat) (t : TypeId) (c1 : Array Value) (d : TypeDesc)
    (hp : tmps.getD p undef = .pointer (some ⟨g1, 0, none⟩)) (hg1 : w.heap[g1]? = some (.cells c1 t (0, 0)))
    (hu : P.underlying ty = some d) (hd : (match d with | .struct _ | .array _ _ => true | _ => false) = true) (hi1 : (P.info? ty).map (·.size) = some c1.size) :
    (results fn tmps).run P w = .ok (.tuple #[tmps.getD q undef, .agg c1]) w := by
  have hp' : tmps[p]?.getD undef = .pointer (some ⟨g1, 0, none⟩) := by simpa using hp
  simp [results, h, hp', asAddr, run_loadVar_row w g1 t ty c1 (0, 0) d hg1 hu hd hi1]
theorem info4 : (Try.prog.info? 30).map (·.size) = some 4 := by kernel_rfl
theorem row4_lit (l : Nat → Nat) : row4 l = [.int .i64 (l 0), .int .i64 (l 1), .int .i64 (l 2), .int .i64 (l 3)] := rfl
theorem row4_one (l : Nat → Nat) : (row4 l).toArray.all (·.oneCell') = true := by rw [row4_lit]; simp; exact ⟨rfl, rfl, rfl, rfl⟩
set_option maxRecDepth 100000 in
set_option maxHeartbeats 6400000 in
theorem rdBox (H W c : Nat) (hH0 : 0 < H) (hH : H ≤ 200) (hW0 : 0 < W) (hW : W ≤ 200) (f : Nat → Nat → Bool) (A0 : Option Addr) (p : Nat → Nat) (hp : ∀ i, p i < 256) (A : Array Value) (hA : A = (rowV (fun i => .int .u8 (p i : Nat)) 5).toArray) (w : World) (h : Rows2 w A0 H W f) :
    Calls Try.prog 6 #[.slice A0 H c, .agg A] w (BoxPost H W w) := by
  have hAr := Arr.new w 23 (rowV (fun i => .int .u8 (p i : Nat)) 5)
  rw [← hA] at hAr
  obtain ⟨b, off, rfl, hb, hr⟩ := h hH0
  obtain ⟨B0, C0, h00, _⟩ := hr 0 hH0
  rw [Nat.add_zero] at h00
  obtain ⟨S, hS⟩ : ∃ S, S = max H W := ⟨_, rfl⟩
  have hH1 : (0 : Int) < (H : Int) := by omega
  have m1 : max (1 : Int) (H : Int) = (H : Int) := by omega
  have m2 : max (H : Int) (W : Int) = (S : Int) := by omega
  have hSb : 0 < S ∧ S ≤ 200 ∧ H ≤ S ∧ W ≤ S := by omega
  obtain ⟨q, hq⟩ : ∃ q, q = 400 / S := ⟨_, rfl⟩
  obtain ⟨mn, hmn⟩ : ∃ q, q = min 6 (400 / S) := ⟨_, rfl⟩
  obtain ⟨mx, hmx⟩ : ∃ q, q = max 1 (min 6 (400 / S)) := ⟨_, rfl⟩
  rw [← hq] at hmn hmx
  have e1 : (400 : Int).tdiv (S : Int) = (q : Int) := by rw [Int.tdiv_eq_ediv_of_nonneg (by omega), hq]; simp
  have e1' : (400 : Int) / (S : Int) = (q : Int) := by rw [hq]; simp
  have e2 : min (6 : Int) (q : Int) = (mn : Int) := by omega
  have e3 : max (1 : Int) (mn : Int) = (mx : Int) := by omega
  have hmx1 : 1 ≤ mx ∧ mx ≤ 6 := by omega
  have hmq : mx = 1 ∨ mx ≤ q := by omega
  obtain ⟨x, hx⟩ : ∃ x, x = p 0 % mx := ⟨_, rfl⟩
  have hx1 : x < mx := by rw [hx]; exact Nat.mod_lt _ (by omega)
  have e4 := fun X => rem_run (p 0 : Int) (mx : Int) (x : Int) (by omega) (by rw [Int.tmod_eq_emod_of_nonneg (by omega), hx]; simp) X
  have e4' : (p 0 : Int) % (mx : Int) = (x : Int) := by rw [hx]; simp
  obtain ⟨B, hB⟩ : ∃ B, B = 1 + x := ⟨_, rfl⟩
  have e5 : IntKind.i64.wrap (1 + (x : Int)) = (B : Int) := by rw [IntKind.wrap_i64]; omega
  have nS : ¬ (S : Int) = 0 := by omega
  have nS2 : ¬ S = 0 := by omega
  have nx : ¬ (mx : Int) = 0 := by omega
  have nx2 : ¬ mx = 0 := by omega
  have eq1 : IntKind.i64.wrap (q : Int) = (q : Int) := by
    have : q ≤ 400 := by rw [hq]; exact Nat.div_le_self _ _
    rw [IntKind.wrap_i64]; omega
  have hBS : B * S ≤ 400 := by
    rcases hmq with h | h
    · have : B = 1 := by omega
      rw [this]; omega
    · have h1 : B * S ≤ q * S := Nat.mul_le_mul_right _ (by omega)
      have h2 : q * S ≤ 400 := by rw [hq]; exact Nat.div_mul_le_self _ _
      omega
  have hBB : 1 ≤ B ∧ B ≤ 6 ∧ B * H ≤ 400 ∧ B * W ≤ 400 := ⟨by omega, by omega, Nat.le_trans (Nat.mul_le_mul_left _ hSb.2.2.1) hBS, Nat.le_trans (Nat.mul_le_mul_left _ hSb.2.2.2) hBS⟩
  have HBB := Lib.hid hBB
  obtain ⟨E, hE⟩ : ∃ E, E = w.heap.size := ⟨_, rfl⟩
  have c0 := hAr.cell? 0
  rw [rowV_get _ _ _ (by omega), ← hE] at c0
  have hp0 := hp 0
  obtain ⟨p0, hp0e⟩ : ∃ p0, p0 = p 0 := ⟨_, rfl⟩
  rw [← hp0e] at e4 e4' c0 hp0
  have hBb : B ≤ 6 := by omega
  clear hA h hr hS hq hmn hmx hmq hx hx1 hB hBS hBB hp0e
  go_enter Try.func6, Try.ntmps6
  go_wp2_with fail
  rw [← hE]
  obtain ⟨W0, hW0⟩ : ∃ W0, W0 = w.alloc (.cells A 23) := ⟨_, rfl⟩
  have hb0 : Below w.heap.size w W0 := by rw [hW0]; exact (Below.refl _ _).alloc (Nat.le_refl _) _
  rw [← hW0] at c0 hAr ⊢
  rw [← hE] at hAr
  obtain ⟨W1, hW1⟩ : ∃ W1, W1 = W0.alloc (.cells #[.int .i64 0, .int .i64 0, .int .i64 0, .int .i64 0] 30) := ⟨_, rfl⟩
  have hsz : W0.heap.size = E + 1 := by rw [hW0, hE]; simp
  have hb1 : Below W0.heap.size W0 W1 := by rw [hW1]; exact (Below.refl _ _).alloc (Nat.le_refl _) _
  have hR1 : Arr W1 30 (E + 1) (row4 (fun _ => 0)) := by rw [hW1, ← hsz]; exact Arr.new W0 _ _
  have c0' := (hb1.cell (p := ⟨E, 0, none⟩) (show E < W0.heap.size from by omega)).trans c0
  rw [← hW1]
  have HA1 := Lib.hid (hAr.below hb1 (by omega))
  have HR1 := Lib.hid hR1
  have HB1 := Lib.hid (hb0.trans (hb1.mono (by omega)))
  have HE := Lib.hid hE
  have hE1 : Hid (E + 1 < W1.heap.size) := Lib.hid hR1.lt
  clear hW1 hW0 hb0 hb1 hR1 hAr c0 hsz hE h00 hb
  go_quiet (fail)
  go_wp2_with fail
  obtain ⟨W2, hW2⟩ : ∃ W2, W2 = W1.drewN nq := ⟨_, rfl⟩
  rw [← hW2]
  obtain ⟨L, hL⟩ : ∃ L, L = W1.heap.size := ⟨_, rfl⟩
  rw [← hL]
  obtain ⟨W3, hW3⟩ : ∃ W3, W3 = W2.alloc (.cells #[.int .i64 0, .int .i64 0, .int .i64 0, .int .i64 0] 30) := ⟨_, rfl⟩
  have HB2 : Hid (Below W1.heap.size W1 W3) := Lib.hid (by rw [hW3, hW2]; exact (Go.Qz.below_drewN (Below.refl _ _) nq).alloc (by simp [World.drewN]) _)
  have HL3 : Hid (Arr W3 30 L (row4 (fun i => if i < 0 then B + p (i + 1) % (6 * B) else 0))) := Lib.hid (by rw [hW3, hL, show W1.heap.size = W2.heap.size from by rw [hW2]; rfl]; exact Arr.new W2 _ _)
  have HLB : Hid (E + 1 < L) := Lib.hid (by rw [hL]; exact hE1.out)
  have HP := Lib.hid hp
  rw [← hW3]
  clear hW3 hW2 hL hp
  go_loopw [31] (fun i wr => ∃ k : Nat, k ≤ 4 ∧ i = .int .i64 k ∧ Hid (Arr wr 30 L (row4 (fun i => if i < k then B + p (i + 1) % (6 * B) else 0))) ∧ Hid (Mod (· = L) W3 wr)) (fun i _ => 4 - (intOf i).toNat)
  case atStart => exact ⟨0, by omega, rfl, HL3, Lib.hid (Mod.refl _)⟩
  case round =>
    obtain ⟨wo, hwo⟩ : ∃ wo, wo = wr := ⟨_, rfl⟩
    rw [← hwo] at hrel ⊢
    clear hwo
    obtain ⟨k, hk, rfl, HLk, HM⟩ := hrel
    have HAo : Hid (Arr wo 23 E (rowV (fun i => .int .u8 (p i : Nat)) 5)) := Lib.hid ((HA1.out.below HB2.out HA1.out.lt).mod HM.out (by have := HLB.out; omega))
    by_cases hlt : k < 4
    · have hk0 : (0 : Int) ≤ (k : Int) := by omega
      have hk1 : (k : Int) < 4 := by omega
      have ck := HAo.out.cell? (k + 1)
      rw [rowV_get _ _ _ (by omega)] at ck
      have cl := HLk.out.cell? k
      unfold row4 at cl
      rw [rowV_get _ _ _ (by omega)] at cl
      dsimp only at cl
      rw [if_neg (by omega)] at cl
      have fl := HLk.out.free k
      have f1 : (1 : Int) + (k : Int) = ((k + 1 : Nat) : Int) := by omega
      have f2 : IntKind.i64.wrap (1 + (k : Int)) = ((k + 1 : Nat) : Int) := by rw [IntKind.wrap_i64]; omega
      have hpk := HP.out (k + 1)
      obtain ⟨pk, hpke⟩ : ∃ pk, pk = p (k + 1) := ⟨_, rfl⟩
      rw [← hpke] at ck hpk
      obtain ⟨y, hy⟩ : ∃ y, y = pk % (6 * B) := ⟨_, rfl⟩
      have hy1 : y < 6 * B := by rw [hy]; exact Nat.mod_lt _ (by have := HBB.out; omega)
      have f3 := fun X => rem_run (pk : Int) (6 * (B : Int)) (y : Int) (by have := HBB.out; omega) (by rw [Int.tmod_eq_emod_of_nonneg (by omega), hy]; simp) X
      have f3' : (pk : Int) % (6 * (B : Int)) = (y : Int) := by rw [hy]; simp
      have f4 : IntKind.i64.wrap (6 * (B : Int)) = 6 * (B : Int) := by rw [IntKind.wrap_i64]; omega
      have f5 : IntKind.i64.wrap ((B : Int) + (y : Int)) = ((B + y : Nat) : Int) := by rw [IntKind.wrap_i64]; omega
      have f6 : ¬ (6 * (B : Int)) = 0 := by have := HBB.out; omega
      have HL4 : Hid (Arr (wo.setCell ⟨L, k, none⟩ (.int .i64 ((B + y : Nat) : Int))) 30 L (row4 (fun i => if i < k + 1 then B + p (i + 1) % (6 * B) else 0))) := Lib.hid (by
        have := HLk.out.set_ k (.int .i64 ((B + y : Nat) : Int))
        unfold row4 at this
        rw [rowV_set (g := fun i => .int .i64 ((if i < k + 1 then B + p (i + 1) % (6 * B) else 0 : Nat) : Int)) (fun j hj => by
          dsimp only
          by_cases e : j = k
          · subst e; rw [if_pos (by omega), if_pos rfl, hy, hpke]
          · rw [if_neg e]; by_cases e2 : j < k
            · rw [if_pos e2, if_pos (by omega)]
            · rw [if_neg e2, if_neg (by omega)])] at this
        exact this)
      have HM4 : Hid (Mod (· = L) W3 (wo.setCell ⟨L, k, none⟩ (.int .i64 ((B + y : Nat) : Int)))) := Lib.hid (HM.out.trans (Mod.set1 wo L k _))
      obtain ⟨v, hv⟩ : ∃ v : Nat, v = B + y := ⟨_, rfl⟩
      rw [← hv] at f5 HL4 HM4
      have hv1 : v < 1000 := by omega
      clear HLk HM hy hpke hv
      go_wp2_with fail
      go_roundw
      case rel => exact ⟨k + 1, by omega, by go_num, HL4, HM4⟩
      case measure => simp [intOf]; omega
    · obtain rfl : k = 4 := by omega
      have HR3 : Hid (Arr wo 30 (E + 1) (row4 (fun _ => 0))) := Lib.hid ((HR1.out.below HB2.out HR1.out.lt).mod HM.out (by have := HLB.out; omega))
      obtain ⟨l, hl⟩ : ∃ l : Nat → Nat, l = fun i => B + p (i + 1) % (6 * B) := ⟨_, rfl⟩
      have HL5 : Hid (Arr wo 30 L (row4 l)) := Lib.hid (by
        have := HLk.out
        rw [show row4 (fun i => if i < 4 then B + p (i + 1) % (6 * B) else 0) = row4 l from rowV_congr (fun j hj => by dsimp only; rw [if_pos hj, hl])] at this
        exact this)
      have HOK : Hid (BoxOk B H W l) := Lib.hid ⟨HBB.out.1, HBB.out.2.1, HBB.out.2.2.1, HBB.out.2.2.2, fun i hi => by
        rw [hl]
        dsimp only
        have := Nat.mod_lt (p (i + 1)) (show 0 < 6 * B by have := HBB.out; omega)
        exact ⟨by omega, by omega⟩⟩
      have HBo : Hid (Below w.heap.size w wo) := Lib.hid (by
        have q1 := HB1.out
        have q2 := q1.trans (HB2.out.mono q1.size)
        have q3 := HB2.out.size
        have q4 := HLB.out
        have q5 := q1.size
        exact q2.trans (HM.out.below (by omega) (fun k hk => by have := HE.out; have := q1.size; omega)))
      have d0 := HL5.out.cell? 0
      have d1 := HL5.out.cell? 1
      have d2 := HL5.out.cell? 2
      have d3 := HL5.out.cell? 3
      rw [row4_lit] at d0 d1 d2 d3
      simp only [List.getElem?_cons_zero, List.getElem?_cons_succ] at d0 d1 d2 d3
      clear HLk HM hl
      go_wp2_with fail
      go_still_tail 3, (by kernel_rfl)
      repeat still_step
      try refine wpStill_nil ?_
      change wpList _ _ _ _ _ wo.drew
      have HR6 : Hid (Arr wo.drew 30 (E + 1) (row4 (fun _ => 0))) := HR3
      have HBo6 : Hid (Below w.heap.size w wo.drew) := Lib.hid HBo.out.drew
      obtain ⟨w7, hw7⟩ : ∃ w7, w7 = wo.drew := ⟨_, rfl⟩
      rw [← hw7] at HR6 HBo6 ⊢
      have HAG := setRow_heap w7 (E + 1) _ (row4 l).toArray _ _ HR6.out
      have HM7 : Below w.heap.size w (w7.setRow (E + 1) (row4 l).toArray) := HBo6.out.trans ((Mod.setRow w7 (E + 1) (row4 l).toArray).below (by have := HBo6.out.size; omega) (fun k hk => by rw [hk]; have := HE.out; omega))
      refine wpList_store_row rfl 30 (.tmp 5) (.tmp 48) rfl (E + 1) (row4 l).toArray rfl rfl 30 _ HR6.out info4 rfl (row4_one l) ?_
      clear d0 d1 d2 d3
      go_wp2_with fail
      refine bodyPost_ret (v := .tuple #[.int .i64 B, .agg (row4 l).toArray]) (results_cell2 (p := 5) (q := 4) (ty := 30) (tq := 3) (by kernel_rfl) _ _ (E + 1) 30 (row4 l).toArray _ rfl HAG Try.underlying30 rfl info4) rfl ?_
      exact ⟨B, l, rfl, HOK, HM7⟩
end Go.Proofs.Ytfnfikmijkeimaa
