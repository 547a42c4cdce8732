/-
  Data Matrix: the sizes, the reference's and the engine's, walked. No condition beyond the bounds that each theorem states.
-/
import Derived.Test.YtjpnkdpgdmmkkaaDMF
import Derived.BigQuiet
import Derived.Great.Walk
namespace Go.Proofs.Ytjpnkdpgdmmkkaa
open Go.RowKit Go.Qz Go.Qz.RS Go.Qz.DM
set_option linter.unusedVariables false

/-- The sizes: sides, sides of a region, words of data and of error correction, blocks. -/
def szL : List (List Nat) := [[10, 10, 8, 8, 3, 5, 1], [12, 12, 10, 10, 5, 7, 1], [8, 18, 6, 16, 5, 7, 1], [14, 14, 12, 12, 8, 10, 1], [8, 32, 6, 14, 10, 11, 1], [16, 16, 14, 14, 12, 12, 1],
  [12, 26, 10, 24, 16, 14, 1], [18, 18, 16, 16, 18, 14, 1], [20, 20, 18, 18, 22, 18, 1], [12, 36, 10, 16, 22, 18, 1], [22, 22, 20, 20, 30, 20, 1], [16, 36, 14, 16, 32, 24, 1],
  [24, 24, 22, 22, 36, 24, 1], [26, 26, 24, 24, 44, 28, 1], [16, 48, 14, 22, 49, 28, 1], [32, 32, 14, 14, 62, 36, 1], [36, 36, 16, 16, 86, 42, 1], [40, 40, 18, 18, 114, 48, 1],
  [44, 44, 20, 20, 144, 56, 1], [48, 48, 22, 22, 174, 68, 1], [52, 52, 24, 24, 204, 84, 2], [64, 64, 14, 14, 280, 112, 2], [72, 72, 16, 16, 368, 144, 4], [80, 80, 18, 18, 456, 192, 4],
  [88, 88, 20, 20, 576, 224, 4], [96, 96, 22, 22, 696, 272, 4], [104, 104, 24, 24, 816, 336, 6], [120, 120, 18, 18, 1050, 408, 6], [132, 132, 20, 20, 1304, 496, 8], [144, 144, 22, 22, 1558, 620, 10]]
def sz (t : Nat) : DS := ⟨nth (szL.getD t []) 0, nth (szL.getD t []) 1, nth (szL.getD t []) 2, nth (szL.getD t []) 3, nth (szL.getD t []) 4, nth (szL.getD t []) 5, nth (szL.getD t []) 6⟩
def tabV : List Value := (List.range 30).flatMap fun t => dcells (sz t)
def TabPost (w : World) (e : Ending) (w' : World) : Prop := ∃ b : Nat, e = .returned (.slice (some ⟨b, 0, none⟩) 30 30) ∧ Below w.heap.size w w' ∧ Hid (Arr w' 24 b tabV)
set_option maxRecDepth 100000 in
set_option maxHeartbeats 3200000 in
theorem dmSizes (w : World) : Calls Try.prog 8 #[] w (TabPost w) := by
  go_enter Try.func8, Try.ntmps8
  go_wp2_with (first | (refine Great.wpList_readTo rfl (some 1) rfl (dsv (sz 0)) (by kernel_rfl) ?_) | (refine Great.wpList_readTo rfl (some 2) rfl (dsv (sz 1)) (by kernel_rfl) ?_) | (refine Great.wpList_readTo rfl (some 3) rfl (dsv (sz 2)) (by kernel_rfl) ?_) | (refine Great.wpList_readTo rfl (some 4) rfl (dsv (sz 3)) (by kernel_rfl) ?_) | (refine Great.wpList_readTo rfl (some 5) rfl (dsv (sz 4)) (by kernel_rfl) ?_) | (refine Great.wpList_readTo rfl (some 6) rfl (dsv (sz 5)) (by kernel_rfl) ?_) | (refine Great.wpList_readTo rfl (some 7) rfl (dsv (sz 6)) (by kernel_rfl) ?_) | (refine Great.wpList_readTo rfl (some 8) rfl (dsv (sz 7)) (by kernel_rfl) ?_) | (refine Great.wpList_readTo rfl (some 9) rfl (dsv (sz 8)) (by kernel_rfl) ?_) | (refine Great.wpList_readTo rfl (some 10) rfl (dsv (sz 9)) (by kernel_rfl) ?_) | (refine Great.wpList_readTo rfl (some 11) rfl (dsv (sz 10)) (by kernel_rfl) ?_) | (refine Great.wpList_readTo rfl (some 12) rfl (dsv (sz 11)) (by kernel_rfl) ?_) | (refine Great.wpList_readTo rfl (some 13) rfl (dsv (sz 12)) (by kernel_rfl) ?_) | (refine Great.wpList_readTo rfl (some 14) rfl (dsv (sz 13)) (by kernel_rfl) ?_) | (refine Great.wpList_readTo rfl (some 15) rfl (dsv (sz 14)) (by kernel_rfl) ?_) | (refine Great.wpList_readTo rfl (some 16) rfl (dsv (sz 15)) (by kernel_rfl) ?_) | (refine Great.wpList_readTo rfl (some 17) rfl (dsv (sz 16)) (by kernel_rfl) ?_) | (refine Great.wpList_readTo rfl (some 18) rfl (dsv (sz 17)) (by kernel_rfl) ?_) | (refine Great.wpList_readTo rfl (some 19) rfl (dsv (sz 18)) (by kernel_rfl) ?_) | (refine Great.wpList_readTo rfl (some 20) rfl (dsv (sz 19)) (by kernel_rfl) ?_) | (refine Great.wpList_readTo rfl (some 21) rfl (dsv (sz 20)) (by kernel_rfl) ?_) | (refine Great.wpList_readTo rfl (some 22) rfl (dsv (sz 21)) (by kernel_rfl) ?_) | (refine Great.wpList_readTo rfl (some 23) rfl (dsv (sz 22)) (by kernel_rfl) ?_) | (refine Great.wpList_readTo rfl (some 24) rfl (dsv (sz 23)) (by kernel_rfl) ?_) | (refine Great.wpList_readTo rfl (some 25) rfl (dsv (sz 24)) (by kernel_rfl) ?_) | (refine Great.wpList_readTo rfl (some 26) rfl (dsv (sz 25)) (by kernel_rfl) ?_) | (refine Great.wpList_readTo rfl (some 27) rfl (dsv (sz 26)) (by kernel_rfl) ?_) | (refine Great.wpList_readTo rfl (some 28) rfl (dsv (sz 27)) (by kernel_rfl) ?_) | (refine Great.wpList_readTo rfl (some 29) rfl (dsv (sz 28)) (by kernel_rfl) ?_) | (refine Great.wpList_readTo rfl (some 30) rfl (dsv (sz 29)) (by kernel_rfl) ?_) | (refine Great.wpList_buildSliceTo rfl 32 24 30 _ rfl w.heap.size rfl (some 31) rfl (by kernel_rfl) tabV.toArray (by kernel_rfl) ?_))
  go_ret
  exact ⟨w.heap.size, rfl, (Below.refl _ _).alloc (Nat.le_refl _) _, Lib.hid (Arr.new _ _ _)⟩
theorem tabV_at : ∀ t, t < 30 → tabV[t * 7]? = some (.int .i64 (sz t).rows) ∧ tabV[t * 7 + 1]? = some (.int .i64 (sz t).cols) ∧ tabV[t * 7 + 2]? = some (.int .i64 (sz t).rr) ∧ tabV[t * 7 + 3]? = some (.int .i64 (sz t).rc) ∧ tabV[t * 7 + 4]? = some (.int .i64 (sz t).dt) ∧ tabV[t * 7 + 5]? = some (.int .i64 (sz t).er) ∧ tabV[t * 7 + 6]? = some (.int .i64 (sz t).bl) := by
  intro t ht
  have h30 : t = 0 ∨ t = 1 ∨ t = 2 ∨ t = 3 ∨ t = 4 ∨ t = 5 ∨ t = 6 ∨ t = 7 ∨ t = 8 ∨ t = 9 ∨ t = 10 ∨ t = 11 ∨ t = 12 ∨ t = 13 ∨ t = 14 ∨ t = 15 ∨ t = 16 ∨ t = 17 ∨ t = 18 ∨ t = 19 ∨ t = 20 ∨ t = 21 ∨ t = 22 ∨ t = 23 ∨ t = 24 ∨ t = 25 ∨ t = 26 ∨ t = 27 ∨ t = 28 ∨ t = 29 := by omega
  rcases h30 with rfl | rfl | rfl | rfl | rfl | rfl | rfl | rfl | rfl | rfl | rfl | rfl | rfl | rfl | rfl | rfl | rfl | rfl | rfl | rfl | rfl | rfl | rfl | rfl | rfl | rfl | rfl | rfl | rfl | rfl <;> exact ⟨rfl, rfl, rfl, rfl, rfl, rfl, rfl⟩

set_option maxRecDepth 100000 in
set_option maxHeartbeats 1600000 in
theorem dmSquare (s : DS) (w : World) : Calls Try.prog 9 #[dsv s] w fun e w' => e = .returned (.bool ((s.rows : Int) == (s.cols : Int))) ∧ Below w.heap.size w w' := by
  have hA := Arr.new w 24 (dcells s)
  obtain ⟨c0, c1, c2, c3, c4, c5, c6⟩ := dcellsOf hA
  unfold dcells at c0 c1
  unfold dsv
  clear hA c2 c3 c4 c5 c6
  go_enter Try.func9, Try.ntmps9
  go_wp2_with fail
  go_ret
  exact ⟨rfl, (Below.refl _ _).alloc (Nat.le_refl _) _⟩

theorem info7 : (Try.prog.info? 24).map (·.size) = some 7 := by kernel_rfl
theorem one7 (s : DS) : (dcells s).toArray.all (·.oneCell') = true := by simp [dcells]; exact ⟨rfl, rfl, rfl, rfl, rfl, rfl, rfl⟩
def z7 : List Value := [.int .i64 0, .int .i64 0, .int .i64 0, .int .i64 0, .int .i64 0, .int .i64 0, .int .i64 0]
def SofPost (x : Nat) (rect : Bool) (w : World) (e : Ending) (w' : World) : Prop :=
  ∃ s r, e = .returned (.tuple #[dsv s, .bool r]) ∧ (r = true → ∃ t, t < 30 ∧ s = sz t ∧ s.dt = x ∧ ((s.rows : Int) == (s.cols : Int)) = !rect) ∧ Below w.heap.size w w'
theorem results_cell1 {P : Program} {fn : Func} {p q : Tmp} {ty tq : TypeId} (h : fn.results = #[.cell p ty, .tmp q]) (tmps : Array Value) (w : World) (g1 : Nat) (t : TypeId) (c1 : Array Value) (d : TypeDesc)
    (hp : tmps.getD p undef = .pointer (some ⟨g1, 0, none⟩)) (hg1 : w.heap[g1]? = some (.cells c1 t (0, 0)))
    (hu : P.underlying ty = some d) (hd : (match d with | .struct _ | .array _ _ => true | _ => false) = true) (hi1 : (P.info? ty).map (·.size) = some c1.size) :
    (results fn tmps).run P w = .ok (.tuple #[.agg c1, tmps.getD q undef]) w := by
  have hp' : tmps[p]?.getD undef = .pointer (some ⟨g1, 0, none⟩) := by simpa using hp
  simp [results, h, hp', asAddr, run_loadVar_row w g1 t ty c1 (0, 0) d hg1 hu hd hi1]
set_option maxRecDepth 100000 in
set_option maxHeartbeats 12800000 in
theorem dmSizeOf (x : Nat) (hx : x < 4294967296) (rect : Bool) (w : World) : Calls Try.prog 4 #[.int .i64 x, .bool rect] w (SofPost x rect w) := by
  go_enter Try.func4, Try.ntmps4
  go_wp2_with fail
  have hZ := Arr.new w 24 z7
  have hb0 : Below w.heap.size w (w.alloc (.cells z7.toArray 24)) := (Below.refl _ _).alloc (Nat.le_refl _) _
  obtain ⟨W0, hW0⟩ : ∃ W0, W0 = w.alloc (.cells z7.toArray 24) := ⟨_, rfl⟩
  rw [← hW0] at hZ hb0
  unfold z7 at hW0
  obtain ⟨E, hE⟩ : ∃ E, E = w.heap.size := ⟨_, rfl⟩
  rw [← hE] at hZ hb0 ⊢
  have e0 : w.alloc (.cells #[.int .i64 0, .int .i64 0, .int .i64 0, .int .i64 0, .int .i64 0, .int .i64 0, .int .i64 0] 24) = W0 := hW0.symm
  rw [e0]
  have HZ := Lib.hid hZ
  have HB0 := Lib.hid hb0
  have HE := Lib.hid hE
  clear hZ hb0 hW0 hE e0
  refine (dmSizes W0).mono ?_
  rintro e w1 ⟨TB, rfl, hb1, HT⟩
  have HZ1 := Lib.hid (HZ.out.below hb1 HZ.out.lt)
  have HB1 : Hid (Below E w w1) := Lib.hid (HB0.out.trans (hb1.mono (Nat.le_of_lt HZ.out.lt)))
  clear hb1 HZ HB0
  go_wp2_with fail
  go_loopw [10] (fun i wr => ∃ t : Nat, t ≤ 30 ∧ i = .int .i64 t ∧ Hid (Arr wr 24 TB tabV) ∧ Hid (Arr wr 24 E z7) ∧ Hid (Below E w wr)) (fun i _ => 30 - (intOf i).toNat)
  case atStart => exact ⟨0, by omega, rfl, HT, HZ1, HB1⟩
  case round =>
    obtain ⟨t, ht, rfl, HT, HZ, HB⟩ := hrel
    clear HZ1 HB1
    obtain ⟨wi, hwi⟩ : ∃ wi, wi = wr := ⟨_, rfl⟩
    rw [← hwi] at HT HZ HB ⊢
    clear hwi
    by_cases hlt : t < 30
    · have hti : (t : Int) < 30 := by omega
      have ht0 : (0 : Int) ≤ (t : Int) := by omega
      obtain ⟨v0, v1, v2, v3, v4, v5, v6⟩ := tabV_at t hlt
      have c0 := HT.out.cell? (t * 7)
      have c1 := HT.out.cell? (t * 7 + 1)
      have c2 := HT.out.cell? (t * 7 + 2)
      have c3 := HT.out.cell? (t * 7 + 3)
      have c4 := HT.out.cell? (t * 7 + 4)
      have c5 := HT.out.cell? (t * 7 + 5)
      have c6 := HT.out.cell? (t * 7 + 6)
      rw [v0] at c0
      rw [v1] at c1
      rw [v2] at c2
      rw [v3] at c3
      rw [v4] at c4
      rw [v5] at c5
      rw [v6] at c6
      obtain ⟨s, hs⟩ : ∃ s, s = sz t := ⟨_, rfl⟩
      have hsb : s.dt < 4294967296 := by
        rw [hs]
        have hall : ∀ t, t < 30 → (sz t).dt < 4294967296 := by decide
        exact hall t hlt
      rw [← hs] at c0 c1 c2 c3 c4 c5 c6
      have HSE := Lib.hid hs
      clear v0 v1 v2 v3 v4 v5 v6 hs
      have hbW : Below wi.heap.size wi (wi.alloc (.cells (dcells s).toArray 24)) := (Below.refl _ _).alloc (Nat.le_refl _) _
      have hA2 := Arr.new wi 24 (dcells s)
      obtain ⟨W2, hW2⟩ : ∃ W2, W2 = wi.alloc (.cells (dcells s).toArray 24) := ⟨_, rfl⟩
      rw [← hW2] at hbW hA2
      unfold dcells at hW2
      have HT2 := Lib.hid (HT.out.below hbW HT.out.lt)
      have HZ2 := Lib.hid (HZ.out.below hbW HZ.out.lt)
      have HB2 : Hid (Below E w W2) := Lib.hid (HB.out.trans (hbW.mono (Nat.le_of_lt HZ.out.lt)))
      have HA2 := Lib.hid hA2
      have HW2 := Lib.hid hW2
      clear hbW hA2 hW2 HT HZ HB
      by_cases hx1 : s.dt = x
      · have HX := Lib.hid hx1
        subst hx1
        have HSQ := dmSquare s W2
        obtain ⟨q, hq⟩ : ∃ q, q = ((s.rows : Int) == (s.cols : Int)) := ⟨_, rfl⟩
        rw [← hq] at HSQ
        unfold dsv at HSQ
        have HSQ := Lib.hid HSQ
        have HQ := Lib.hid hq
        clear hq
        go_wp2_with fail
        rw [← HW2.out]
        refine HSQ.out.mono ?_
        rintro e w3 ⟨rfl, hb3⟩
        have HT3 := Lib.hid (HT2.out.below hb3 HT2.out.lt)
        have HZ3 := Lib.hid (HZ2.out.below hb3 HZ2.out.lt)
        have HA3 := Lib.hid (HA2.out.below hb3 HA2.out.lt)
        have HB3 : Hid (Below E w w3) := Lib.hid (HB2.out.trans (hb3.mono (Nat.le_of_lt HZ2.out.lt)))
        obtain ⟨G, hG⟩ : ∃ G, G = wi.heap.size := ⟨_, rfl⟩
        rw [← hG] at HA3 ⊢
        obtain ⟨d0, d1, d2, d3, d4, d5, d6⟩ := dcellsOf HA3.out
        clear hb3 HT2 HZ2 HA2 HB2 HW2 HSQ hG c0 c1 c2 c3 c4 c5 c6
        by_cases hqr : q = !rect
        · obtain rfl : rect = !q := by rw [hqr]; simp
          clear hqr
          cases q
          all_goals
            go_wp2_with (refine wpList_store_row rfl 24 (.tmp 4) (.tmp 24) rfl E (dcells s).toArray rfl rfl 24 _ HZ3.out info7 rfl (one7 s) ?_)
            have hA := setRow_heap w3 E _ (dcells s).toArray _ _ HZ3.out
            have hM : Below E w (w3.setRow E (dcells s).toArray) := HB3.out.trans ((Mod.setRow w3 E (dcells s).toArray).below (Nat.le_of_lt HZ3.out.lt) (fun k hk => by rw [hk]; exact Nat.le_refl _))
            refine bodyPost_ret (v := .tuple #[dsv s, .bool true]) (results_cell1 (p := 4) (q := 5) (ty := 24) (tq := 4) (by kernel_rfl) _ _ E 24 (dcells s).toArray _ rfl hA Try.underlying24 rfl info7) rfl ?_
            exact ⟨s, true, rfl, fun _ => ⟨t, hlt, HSE.out, rfl, by rw [← HQ.out]; rfl⟩, by rw [← HE.out]; exact hM⟩
        · have hqe : q = rect := by cases q <;> cases rect <;> simp_all
          subst hqe
          have hne : (q != q) = false := by cases q <;> rfl
          have hne2 : (!q == q) = false := by cases q <;> rfl
          clear hqr
          go_wp2_with fail
          go_roundw
          case rel => exact ⟨t + 1, by omega, by go_num, HT3, HZ3, HB3⟩
          case measure => simp [intOf]; omega
      · have hxx : ((s.dt : Int) == (x : Int)) = false := by simp; omega
        clear hx1
        go_wp2_with fail
        rw [← HW2.out]
        go_roundw
        case rel => exact ⟨t + 1, by omega, by go_num, HT2, HZ2, HB2⟩
        case measure => simp [intOf]; omega
    · obtain rfl : t = 30 := by omega
      go_wp2_with (refine wpList_store_row rfl 24 (.tmp 4) (.tmp 26) rfl E z7.toArray rfl rfl 24 _ HZ.out info7 rfl (one7 ⟨0, 0, 0, 0, 0, 0, 0⟩) ?_)
      have hA := setRow_heap wi E _ z7.toArray _ _ HZ.out
      have hM : Below E w (wi.setRow E z7.toArray) := HB.out.trans ((Mod.setRow wi E z7.toArray).below (Nat.le_of_lt HZ.out.lt) (fun k hk => by rw [hk]; exact Nat.le_refl _))
      refine bodyPost_ret (v := .tuple #[dsv ⟨0, 0, 0, 0, 0, 0, 0⟩, .bool false]) (results_cell1 (p := 4) (q := 5) (ty := 24) (tq := 4) (by kernel_rfl) _ _ E 24 z7.toArray _ rfl hA Try.underlying24 rfl info7) rfl ?_
      exact ⟨⟨0, 0, 0, 0, 0, 0, 0⟩, false, rfl, (fun h => by cases h), by rw [← HE.out]; exact hM⟩
end Go.Proofs.Ytjpnkdpgdmmkkaa
