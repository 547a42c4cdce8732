/-
  A size by a number, of those that hold some words and three more, walked. No condition beyond the bounds that each theorem states.
-/
import Derived.Test.YthnepajhiialpaaDoorDSZ
import Derived.Test.YthnepajhiialpaaDoorDAY
import Derived.BigRegion
import Derived.Deep.Cut
namespace Go.Proofs.YthnepajhiialpaaDoor
open Go.RowKit Go.Qz Go.Qz.DW
set_option linter.unusedVariables false

theorem Tryd.infoDSZ : (Tryd.prog.info? 31).map (fun i => (i.zero, i.size, i.bytes)) = some (some (.agg #[.int .i64 0, .int .i64 0, .int .i64 0, .int .i64 0, .int .i64 0, .int .i64 0, .int .i64 0]), 7, 56) := by kernel_rfl
def dflat (g : Nat → DS) (m : Nat) : List Value := (List.range m).flatMap fun j => dcells (g j)
theorem dflat_succ (g : Nat → DS) (m : Nat) (s : DS) : dflat (fun j => if j = m then s else g j) (m + 1) = dflat g m ++ dcells s := by
  unfold dflat
  rw [List.range_succ, List.flatMap_append]
  congr 1
  · have : ∀ l : List Nat, (∀ j ∈ l, j < m) → l.flatMap (fun j => dcells (if j = m then s else g j)) = l.flatMap (fun j => dcells (g j)) := by
      intro l hl
      induction l with
      | nil => rfl
      | cons a r ih =>
        rw [List.flatMap_cons, List.flatMap_cons, ih (fun j hj => hl j (List.mem_cons_of_mem _ hj)), if_neg (by have := hl a (by simp); omega)]
    exact this _ (fun j hj => List.mem_range.1 hj)
  · simp
def SizedPost (n : Nat) (w : World) (e : Ending) (w' : World) : Prop :=
  ∃ s r, e = .returned (.tuple #[dsv s, .bool r]) ∧ (r = true → n + 3 ≤ s.dt ∧ s.dt ≤ 1558) ∧ Below w.heap.size w w'
def z7 : List Value := [.int .i64 0, .int .i64 0, .int .i64 0, .int .i64 0, .int .i64 0, .int .i64 0, .int .i64 0]
set_option maxRecDepth 100000 in
set_option maxHeartbeats 12800000 in
theorem dmSized (n c : Nat) (A : Option Addr) (hn : n < 100000) (i : Int) (hi : -9223372036854775808 ≤ i ∧ i ≤ 9223372036854775807) (w : World) :
    Calls Tryd.prog 7 #[.slice A n c, .int .i64 i] w (SizedPost n w) := by
  obtain ⟨n3, hn3⟩ : ∃ x, x = n + 3 := ⟨_, rfl⟩
  have en : (n : Int) + 3 = (n3 : Int) := by omega
  have hn3b : n3 < 100010 := by omega
  have HN3 := Lib.hid hn3
  clear hn3
  go_enter Tryd.func7, Tryd.ntmps7
  go_wp2_with fail
  have hZ := Arr.new w 31 z7
  have hb0 : Below w.heap.size w (w.alloc (.cells z7.toArray 31)) := (Below.refl _ _).alloc (Nat.le_refl _) _
  obtain ⟨W0, hW0⟩ : ∃ W0, W0 = w.alloc (.cells z7.toArray 31) := ⟨_, rfl⟩
  rw [← hW0] at hZ hb0
  unfold z7 at hW0
  obtain ⟨E, hE⟩ : ∃ E, E = w.heap.size := ⟨_, rfl⟩
  rw [← hE] at hZ hb0 ⊢
  have e0 : w.alloc (.cells #[.int .i64 0, .int .i64 0, .int .i64 0, .int .i64 0, .int .i64 0, .int .i64 0, .int .i64 0] 31) = W0 := hW0.symm
  rw [e0]
  have HZ := Lib.hid hZ
  have HB0 := Lib.hid hb0
  have HE := Lib.hid hE
  clear hZ hb0 hW0 hE e0
  refine (dmSizes W0).mono ?_
  rintro e w1 ⟨TB, rfl, hb1, HT⟩
  have HZ1 := Lib.hid (HZ.out.below hb1 HZ.out.lt)
  have HB1 : Hid (Below E w w1) := Lib.hid (HB0.out.trans (hb1.mono (Nat.le_of_lt HZ.out.lt)))
  clear hb1 HZ HB0
  go_wp2_with fail
  go_loopw [6, 11] (fun v i wr => ∃ (t m : Nat) (g : Nat → DS), t ≤ 30 ∧ m ≤ t ∧ i = .int .i64 t ∧ Hid (∀ j, j < m → n3 ≤ (g j).dt ∧ (g j).dt ≤ 1558) ∧ Hid (wr.ownsRow (E + 1) 31 7 v m (dflat g m)) ∧ Hid (Arr wr 31 TB tabV) ∧ Hid (Arr wr 31 E z7) ∧ Hid (Below E w wr) ∧ Hid (v.ownBlock ≠ some TB)) (fun _ i _ => 30 - (intOf i).toNat)
  case atStart => exact ⟨0, 0, fun _ => sz 0, by omega, by omega, rfl, Lib.hid (fun j hj => absurd hj (by omega)), Lib.hid (World.ownsRow_nil _ _ _ _), HT, HZ1, HB1, Lib.hid (by simp [Value.ownBlock])⟩
  case round =>
    obtain ⟨t, m, g, ht, hmt, rfl, HG, HO, HT, HZ, HB, HNE⟩ := hrel
    clear HZ1 HB1
    obtain ⟨wi, hwi⟩ : ∃ wi, wi = wr := ⟨_, rfl⟩
    rw [← hwi] at HO HT HZ HB ⊢
    clear hwi
    by_cases hlt : t < 30
    · have hti : (t : Int) < 30 := by omega
      have ht0 : (0 : Int) ≤ (t : Int) := by omega
      obtain ⟨v0, v1, v2, v3, v4, v5, v6⟩ := tabV_at t hlt
      have c0 := HT.out.cell? (t * 7)
      have c1 := HT.out.cell? (t * 7 + 1)
      have c2 := HT.out.cell? (t * 7 + 2)
      have c3 := HT.out.cell? (t * 7 + 3)
      have c4 := HT.out.cell? (t * 7 + 4)
      have c5 := HT.out.cell? (t * 7 + 5)
      have c6 := HT.out.cell? (t * 7 + 6)
      rw [v0] at c0
      rw [v1] at c1
      rw [v2] at c2
      rw [v3] at c3
      rw [v4] at c4
      rw [v5] at c5
      rw [v6] at c6
      obtain ⟨s, hs⟩ : ∃ s, s = sz t := ⟨_, rfl⟩
      have hsb : s.dt ≤ 1558 := by rw [hs]; exact dt_le t hlt
      rw [← hs] at c0 c1 c2 c3 c4 c5 c6
      clear v0 v1 v2 v3 v4 v5 v6 hs
      have hbW : Below wi.heap.size wi (wi.alloc (.cells (dcells s).toArray 31)) := (Below.refl _ _).alloc (Nat.le_refl _) _
      have hA2 := Arr.new wi 31 (dcells s)
      obtain ⟨W2, hW2⟩ : ∃ W2, W2 = wi.alloc (.cells (dcells s).toArray 31) := ⟨_, rfl⟩
      rw [← hW2] at hbW hA2
      unfold dcells at hW2
      have HT2 := Lib.hid (HT.out.below hbW HT.out.lt)
      have HZ2 := Lib.hid (HZ.out.below hbW HZ.out.lt)
      have HB2 : Hid (Below E w W2) := Lib.hid (HB.out.trans (hbW.mono (Nat.le_of_lt HZ.out.lt)))
      have HO2 := Lib.hid (own_below HO.out hbW)
      have HW2 := Lib.hid hW2
      obtain ⟨G, hG⟩ : ∃ G, G = wi.heap.size := ⟨_, rfl⟩
      rw [← hG] at hA2
      have HA2 := Lib.hid hA2
      obtain ⟨d0, d1, d2, d3, d4, d5, d6⟩ := dcellsOf HA2.out
      have HGE := Lib.hid hG
      clear hbW hA2 hW2 HT HZ HB HO hG
      by_cases hx1 : n3 ≤ s.dt
      · have hx2 : (n3 : Int) ≤ (s.dt : Int) := by omega
        go_upto_if 20 with (fail)
        rw [← HW2.out, ← HGE.out]
        clear c0 c1 c2 c3 c4 c5 c6
        go_wp2_with (at_builtin; refine wpList_pushS _ _ 43 (E + 1) 31 (.agg #[.int .i64 0, .int .i64 0, .int .i64 0, .int .i64 0, .int .i64 0, .int .i64 0, .int .i64 0]) 7 56 _ m _ (dcells s) rfl (by decide) rfl rfl rfl rfl Tryd.underlying43 Tryd.infoDSZ rfl (fun u hu => List.all_eq_true.1 (by simpa using one7 s) u hu) (by decide) HO2.out (by omega) (by have := HZ2.out.lt; omega) ?_)
        intro v' w3 hown3 hg3 hb3 hl3
        rw [← dflat_succ] at hown3
        have HO3 := Lib.hid hown3
        have HZ3 := Lib.hid (HZ2.out.below hb3 (Nat.lt_succ_self E))
        have HT3 := Lib.hid (HT2.out.keep (hg3.block TB HT2.out.lt (fun e => HNE.out e.symm)))
        have HB3 : Hid (Below E w w3) := Lib.hid (HB2.out.trans (hb3.mono (Nat.le_succ E)))
        have HNE3 : Hid (v'.ownBlock ≠ some TB) := Lib.hid (by
          rcases hl3 with h | h
          · rw [h]; exact HNE.out
          · rw [h]; intro e; injection e with e; have := HT2.out.lt; omega)
        clear hown3 hg3 hb3 hl3
        go_wp2_with fail
        go_roundw
        case rel =>
          refine ⟨t + 1, m + 1, _, by omega, by omega, by go_num, Lib.hid (fun j hj => ?_), HO3, HT3, HZ3, HB3, HNE3⟩
          by_cases hjm : j = m
          · rw [if_pos hjm]; exact ⟨hx1, hsb⟩
          · rw [if_neg hjm]; exact HG.out j (by omega)
        case measure => simp [intOf]; omega
      · have hxx : ((n3 : Int) ≤ (s.dt : Int)) = False := by simp; omega
        clear hx1
        go_wp2_with fail
        rw [← HW2.out]
        go_roundw
        case rel => exact ⟨t + 1, m, g, by omega, by omega, by go_num, HG, HO2, HT2, HZ2, HB2, HNE⟩
        case measure => simp [intOf]; omega
    · obtain rfl : t = 30 := by omega
      obtain ⟨A2, c2, rfl, hc2, hcm2, hst⟩ := own_structs (fun j => dcells (g j)) (fun _ => rfl) HO.out
      clear HT HNE HO
      have hMz : ∀ (W3 : World) (s : DS), Hid (Arr W3 31 E z7) → Below E w W3 → Arr (W3.setRow E (dcells s).toArray) 31 E (dcells s) ∧ Below E w (W3.setRow E (dcells s).toArray) := fun W3 s hz hb =>
        ⟨setRow_heap W3 E _ (dcells s).toArray _ _ hz.out, hb.trans ((Mod.setRow W3 E (dcells s).toArray).below (Nat.le_of_lt hz.out.lt) (fun k hk => by rw [hk]; exact Nat.le_refl _))⟩
      have HMZ := Lib.hid hMz
      clear hMz
      by_cases hm0 : m = 0 ∨ i < 0
      · have hz0 : ∀ W, (Instr.build 31 #[]).run Tryd.prog W = .ok (dsv ⟨0, 0, 0, 0, 0, 0, 0⟩) W := fun W => by kernel_rfl
        unfold dsv at hz0
        have hts : (m = 0 → decide ((m : Int) = 0) = true) := fun h => by simp [h]
        by_cases hm1 : m = 0
        · subst hm1
          clear hts hst
          go_wp2_with (refine wpList_store_row rfl 31 (.tmp 4) (.tmp 33) rfl E (dcells ⟨0, 0, 0, 0, 0, 0, 0⟩).toArray rfl rfl 31 _ HZ.out info7 rfl (one7 _) ?_)
          obtain ⟨hA, hM⟩ := HMZ.out _ ⟨0, 0, 0, 0, 0, 0, 0⟩ HZ HB.out
          go_wp2_with fail
          refine bodyPost_ret (v := .tuple #[dsv ⟨0, 0, 0, 0, 0, 0, 0⟩, .bool false]) (results_cell1 (p := 4) (q := 5) (ty := 31) (tq := 4) (by kernel_rfl) _ _ E 31 (dcells ⟨0, 0, 0, 0, 0, 0, 0⟩).toArray _ rfl hA Tryd.underlying31 rfl info7) rfl ?_
          exact ⟨_, false, rfl, (fun h => by cases h), by rw [← HE.out]; exact hM⟩
        · have hi0 : i < 0 := by omega
          have d0 : ((m : Int) == 0) = false := by simp; omega
          clear hts hst hm0
          go_wp2_with (refine wpList_store_row rfl 31 (.tmp 4) (.tmp 33) rfl E (dcells ⟨0, 0, 0, 0, 0, 0, 0⟩).toArray rfl rfl 31 _ HZ.out info7 rfl (one7 _) ?_)
          obtain ⟨hA, hM⟩ := HMZ.out _ ⟨0, 0, 0, 0, 0, 0, 0⟩ HZ HB.out
          go_wp2_with fail
          refine bodyPost_ret (v := .tuple #[dsv ⟨0, 0, 0, 0, 0, 0, 0⟩, .bool false]) (results_cell1 (p := 4) (q := 5) (ty := 31) (tq := 4) (by kernel_rfl) _ _ E 31 (dcells ⟨0, 0, 0, 0, 0, 0, 0⟩).toArray _ rfl hA Tryd.underlying31 rfl info7) rfl ?_
          exact ⟨_, false, rfl, (fun h => by cases h), by rw [← HE.out]; exact hM⟩
      · obtain ⟨iN, rfl⟩ : ∃ iN : Nat, i = (iN : Int) := ⟨i.toNat, by omega⟩
        have hmp : 0 < m := by omega
        obtain ⟨b, o, rfl, hb, hcell⟩ := hst hmp
        have d0 : ((m : Int) == 0) = false := by simp; omega
        have d1 : ((iN : Int) < 0) = False := by simp
        obtain ⟨r, hr⟩ : ∃ r, r = iN % m := ⟨_, rfl⟩
        have hrm : r < m := by rw [hr]; exact Nat.mod_lt _ hmp
        have t1 : (iN : Int).tmod (m : Int) = (r : Int) := by rw [Int.tmod_eq_emod_of_nonneg (by omega), hr]; omega
        have t2 : (iN : Int) % (m : Int) = (r : Int) := by rw [hr]; omega
        have hr1 : (r : Int) < (m : Int) := by omega
        have hr0 : (0 : Int) ≤ (r : Int) := by omega
        have hm00 : ¬ (m : Int) = 0 := by omega
        obtain ⟨hs1, hs2⟩ := HG.out r hrm
        have k0 := hcell r hrm 0 _ rfl
        have k1 := hcell r hrm 1 _ rfl
        have k2 := hcell r hrm 2 _ rfl
        have k3 := hcell r hrm 3 _ rfl
        have k4 := hcell r hrm 4 _ rfl
        have k5 := hcell r hrm 5 _ rfl
        have k6 := hcell r hrm 6 _ rfl
        obtain ⟨s, hs⟩ : ∃ s, s = g r := ⟨_, rfl⟩
        rw [← hs] at k0 k1 k2 k3 k4 k5 k6 hs1 hs2
        simp only [Nat.add_zero] at k0
        clear hcell hst hs hr hm0
        go_wp2_with (refine wpList_store_row rfl 31 (.tmp 4) (.tmp 40) rfl E (dcells s).toArray rfl rfl 31 _ HZ.out info7 rfl (one7 _) ?_)
        obtain ⟨hA, hM⟩ := HMZ.out _ s HZ HB.out
        go_wp2_with fail
        refine bodyPost_ret (v := .tuple #[dsv s, .bool true]) (results_cell1 (p := 4) (q := 5) (ty := 31) (tq := 4) (by kernel_rfl) _ _ E 31 (dcells s).toArray _ rfl hA Tryd.underlying31 rfl info7) rfl ?_
        exact ⟨s, true, rfl, fun _ => ⟨by have := HN3.out; omega, hs2⟩, by rw [← HE.out]; exact hM⟩
end Go.Proofs.YthnepajhiialpaaDoor
