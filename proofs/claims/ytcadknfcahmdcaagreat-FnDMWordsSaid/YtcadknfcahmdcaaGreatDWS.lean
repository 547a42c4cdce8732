/-
  Data Matrix: the reference's sizes by words and shape, walked. No condition beyond the bounds that each theorem states.
-/
import Derived.Test.YtcadknfcahmdcaaGreatDSZ
import Derived.Test.YtcadknfcahmdcaaGreatDWE
namespace Go.Proofs.YtcadknfcahmdcaaGreat
open Go.RowKit Go.Qz
set_option linter.unusedVariables false

set_option maxRecDepth 100000 in
set_option maxHeartbeats 1600000 in
theorem dmSquare (s : DS) (w : World) : Calls Tryz.prog 19 #[dsv s] w fun e w' => e = .returned (.bool ((s.rows : Int) == (s.cols : Int))) ∧ Below w.heap.size w w' := by
  have hA := Arr.new w 28 (dcells s)
  obtain ⟨c0, c1, c2, c3, c4, c5, c6⟩ := dcellsOf hA
  unfold dcells at c0 c1
  unfold dsv
  clear hA c2 c3 c4 c5 c6
  go_enter Tryz.func19, Tryz.ntmps19
  go_wp2_with fail
  go_ret
  exact ⟨rfl, (Below.refl _ _).alloc (Nat.le_refl _) _⟩

def z7 : List Value := [.int .i64 0, .int .i64 0, .int .i64 0, .int .i64 0, .int .i64 0, .int .i64 0, .int .i64 0]
/-- None of the first t sizes is the one. -/
def NoSz (x : Nat) (rect : Bool) (t : Nat) : Prop := ∀ t', t' < t → ¬ ((sz t').dt = x ∧ (((sz t').rows : Int) == ((sz t').cols : Int)) = !rect)
theorem NoSz.succ {x t : Nat} {rect : Bool} (h : NoSz x rect t) (h2 : ¬ ((sz t).dt = x ∧ (((sz t).rows : Int) == ((sz t).cols : Int)) = !rect)) : NoSz x rect (t + 1) := fun t' ht => by
  rcases Nat.lt_or_ge t' t with h3 | h3
  · exact h t' h3
  · rw [show t' = t by omega]; exact h2
def SofPost (x : Nat) (rect : Bool) (w : World) (e : Ending) (w' : World) : Prop :=
  ∃ s r, e = .returned (.tuple #[dsv s, .bool r]) ∧ (r = true → ∃ t, t < 30 ∧ s = sz t ∧ s.dt = x ∧ ((s.rows : Int) == (s.cols : Int)) = !rect) ∧ (r = false → NoSz x rect 30) ∧ Below w.heap.size w w'
set_option maxRecDepth 100000 in
set_option maxHeartbeats 12800000 in
theorem dmSizeOf (x : Nat) (hx : x < 4294967296) (rect : Bool) (w : World) : Calls Tryz.prog 7 #[.int .i64 x, .bool rect] w (SofPost x rect w) := by
  go_enter Tryz.func7, Tryz.ntmps7
  go_wp2_with fail
  have hZ := Arr.new w 28 z7
  have hb0 : Below w.heap.size w (w.alloc (.cells z7.toArray 28)) := (Below.refl _ _).alloc (Nat.le_refl _) _
  obtain ⟨W0, hW0⟩ : ∃ W0, W0 = w.alloc (.cells z7.toArray 28) := ⟨_, rfl⟩
  rw [← hW0] at hZ hb0
  unfold z7 at hW0
  obtain ⟨E, hE⟩ : ∃ E, E = w.heap.size := ⟨_, rfl⟩
  rw [← hE] at hZ hb0 ⊢
  have e0 : w.alloc (.cells #[.int .i64 0, .int .i64 0, .int .i64 0, .int .i64 0, .int .i64 0, .int .i64 0, .int .i64 0] 28) = W0 := hW0.symm
  rw [e0]
  have HZ := Lib.hid hZ
  have HB0 := Lib.hid hb0
  have HE := Lib.hid hE
  clear hZ hb0 hW0 hE e0
  refine (dmSizes W0).mono ?_
  rintro e w1 ⟨TB, rfl, hb1, HT⟩
  have HZ1 := Lib.hid (HZ.out.below hb1 HZ.out.lt)
  have HB1 : Hid (Below E w w1) := Lib.hid (HB0.out.trans (hb1.mono (Nat.le_of_lt HZ.out.lt)))
  clear hb1 HZ HB0
  go_wp2_with fail
  go_loopw [10] (fun i wr => ∃ t : Nat, t ≤ 30 ∧ i = .int .i64 t ∧ Hid (Arr wr 28 TB tabV) ∧ Hid (Arr wr 28 E z7) ∧ Hid (Below E w wr) ∧ Hid (NoSz x rect t)) (fun i _ => 30 - (intOf i).toNat)
  case atStart => exact ⟨0, by omega, rfl, HT, HZ1, HB1, Lib.hid (fun t' h => by omega)⟩
  case round =>
    obtain ⟨t, ht, rfl, HT, HZ, HB, HNO⟩ := hrel
    clear HZ1 HB1
    obtain ⟨wi, hwi⟩ : ∃ wi, wi = wr := ⟨_, rfl⟩
    rw [← hwi] at HT HZ HB ⊢
    clear hwi
    by_cases hlt : t < 30
    · have hti : (t : Int) < 30 := by omega
      have ht0 : (0 : Int) ≤ (t : Int) := by omega
      obtain ⟨v0, v1, v2, v3, v4, v5, v6⟩ := tabV_at t hlt
      have c0 := HT.out.cell? (t * 7)
      have c1 := HT.out.cell? (t * 7 + 1)
      have c2 := HT.out.cell? (t * 7 + 2)
      have c3 := HT.out.cell? (t * 7 + 3)
      have c4 := HT.out.cell? (t * 7 + 4)
      have c5 := HT.out.cell? (t * 7 + 5)
      have c6 := HT.out.cell? (t * 7 + 6)
      rw [v0] at c0
      rw [v1] at c1
      rw [v2] at c2
      rw [v3] at c3
      rw [v4] at c4
      rw [v5] at c5
      rw [v6] at c6
      obtain ⟨s, hs⟩ : ∃ s, s = sz t := ⟨_, rfl⟩
      have hsb : s.dt < 4294967296 := by
        rw [hs]
        have hall : ∀ t, t < 30 → (sz t).dt < 4294967296 := by decide
        exact hall t hlt
      rw [← hs] at c0 c1 c2 c3 c4 c5 c6
      have HSE := Lib.hid hs
      clear v0 v1 v2 v3 v4 v5 v6 hs
      have hbW : Below wi.heap.size wi (wi.alloc (.cells (dcells s).toArray 28)) := (Below.refl _ _).alloc (Nat.le_refl _) _
      have hA2 := Arr.new wi 28 (dcells s)
      obtain ⟨W2, hW2⟩ : ∃ W2, W2 = wi.alloc (.cells (dcells s).toArray 28) := ⟨_, rfl⟩
      rw [← hW2] at hbW hA2
      unfold dcells at hW2
      have HT2 := Lib.hid (HT.out.below hbW HT.out.lt)
      have HZ2 := Lib.hid (HZ.out.below hbW HZ.out.lt)
      have HB2 : Hid (Below E w W2) := Lib.hid (HB.out.trans (hbW.mono (Nat.le_of_lt HZ.out.lt)))
      have HA2 := Lib.hid hA2
      have HW2 := Lib.hid hW2
      clear hbW hA2 hW2 HT HZ HB
      by_cases hx1 : s.dt = x
      · have HX := Lib.hid hx1
        subst hx1
        have HSQ := dmSquare s W2
        obtain ⟨q, hq⟩ : ∃ q, q = ((s.rows : Int) == (s.cols : Int)) := ⟨_, rfl⟩
        rw [← hq] at HSQ
        unfold dsv at HSQ
        have HSQ := Lib.hid HSQ
        have HQ := Lib.hid hq
        clear hq
        go_wp2_with fail
        rw [← HW2.out]
        refine HSQ.out.mono ?_
        rintro e w3 ⟨rfl, hb3⟩
        have HT3 := Lib.hid (HT2.out.below hb3 HT2.out.lt)
        have HZ3 := Lib.hid (HZ2.out.below hb3 HZ2.out.lt)
        have HA3 := Lib.hid (HA2.out.below hb3 HA2.out.lt)
        have HB3 : Hid (Below E w w3) := Lib.hid (HB2.out.trans (hb3.mono (Nat.le_of_lt HZ2.out.lt)))
        obtain ⟨G, hG⟩ : ∃ G, G = wi.heap.size := ⟨_, rfl⟩
        rw [← hG] at HA3 ⊢
        obtain ⟨d0, d1, d2, d3, d4, d5, d6⟩ := dcellsOf HA3.out
        clear hb3 HT2 HZ2 HA2 HB2 HW2 HSQ hG c0 c1 c2 c3 c4 c5 c6
        by_cases hqr : q = !rect
        · obtain rfl : rect = !q := by rw [hqr]; simp
          clear hqr
          cases q
          all_goals
            go_wp2_with (refine wpList_store_row rfl 28 (.tmp 4) (.tmp 24) rfl E (dcells s).toArray rfl rfl 28 _ HZ3.out info7 rfl (one7 s) ?_)
            have hA := setRow_heap w3 E _ (dcells s).toArray _ _ HZ3.out
            have hM : Below E w (w3.setRow E (dcells s).toArray) := HB3.out.trans ((Mod.setRow w3 E (dcells s).toArray).below (Nat.le_of_lt HZ3.out.lt) (fun k hk => by rw [hk]; exact Nat.le_refl _))
            refine bodyPost_ret (v := .tuple #[dsv s, .bool true]) (results_cell1 (p := 4) (q := 5) (ty := 28) (tq := 4) (by kernel_rfl) _ _ E 28 (dcells s).toArray _ rfl hA Tryz.underlying28 rfl info7) rfl ?_
            exact ⟨s, true, rfl, fun _ => ⟨t, hlt, HSE.out, rfl, by rw [← HQ.out]; rfl⟩, (fun h => by cases h), by rw [← HE.out]; exact hM⟩
        · have hqe : q = rect := by cases q <;> cases rect <;> simp_all
          subst hqe
          have hne : (q != q) = false := by cases q <;> rfl
          have hne2 : (!q == q) = false := by cases q <;> rfl
          clear hqr
          have HNO2 : Hid (NoSz s.dt q (t + 1)) := Lib.hid (HNO.out.succ (fun h => by
            rw [← HSE.out, ← HQ.out] at h
            have := h.2
            revert this; cases q <;> decide))
          clear HNO
          go_wp2_with fail
          go_roundw
          case rel => exact ⟨t + 1, by omega, by go_num, HT3, HZ3, HB3, HNO2⟩
          case measure => simp [intOf]; omega
      · have hxx : ((s.dt : Int) == (x : Int)) = false := by simp; omega
        have HNO2 : Hid (NoSz x rect (t + 1)) := Lib.hid (HNO.out.succ (fun h => hx1 (by rw [HSE.out]; exact h.1)))
        clear hx1 HNO
        go_wp2_with fail
        rw [← HW2.out]
        go_roundw
        case rel => exact ⟨t + 1, by omega, by go_num, HT2, HZ2, HB2, HNO2⟩
        case measure => simp [intOf]; omega
    · obtain rfl : t = 30 := by omega
      go_wp2_with (refine wpList_store_row rfl 28 (.tmp 4) (.tmp 26) rfl E z7.toArray rfl rfl 28 _ HZ.out info7 rfl (one7 ⟨0, 0, 0, 0, 0, 0, 0⟩) ?_)
      have hA := setRow_heap wi E _ z7.toArray _ _ HZ.out
      have hM : Below E w (wi.setRow E z7.toArray) := HB.out.trans ((Mod.setRow wi E z7.toArray).below (Nat.le_of_lt HZ.out.lt) (fun k hk => by rw [hk]; exact Nat.le_refl _))
      refine bodyPost_ret (v := .tuple #[dsv ⟨0, 0, 0, 0, 0, 0, 0⟩, .bool false]) (results_cell1 (p := 4) (q := 5) (ty := 28) (tq := 4) (by kernel_rfl) _ _ E 28 z7.toArray _ rfl hA Tryz.underlying28 rfl info7) rfl ?_
      exact ⟨⟨0, 0, 0, 0, 0, 0, 0⟩, false, rfl, (fun h => by cases h), (fun _ => HNO.out), by rw [← HE.out]; exact hM⟩
/-- Whether a shape allows a size. -/
def fitsB (sh : Nat) (s : DS) : Bool := if sh = 0 then true else if sh = 1 then ((s.rows : Int) == (s.cols : Int)) else !((s.rows : Int) == (s.cols : Int))
set_option maxRecDepth 100000 in
set_option maxHeartbeats 1600000 in
theorem dmFits (s : DS) (sh : Nat) (hsh : sh ≤ 2) (w : World) : Calls Tryz.prog 8 #[dsv s, .int .i64 sh] w fun e w' => e = .returned (.bool (fitsB sh s)) ∧ Below w.heap.size w w' := by
  have hA := Arr.new w 28 (dcells s)
  obtain ⟨c0, c1, c2, c3, c4, c5, c6⟩ := dcellsOf hA
  have hb0 : Below w.heap.size w (w.alloc (.cells (dcells s).toArray 28)) := (Below.refl _ _).alloc (Nat.le_refl _) _
  have HSQ := Lib.hid (fun W => dmSquare s W)
  obtain ⟨b, hb⟩ : ∃ b, b = ((s.rows : Int) == (s.cols : Int)) := ⟨_, rfl⟩
  have hfit : fitsB sh s = if sh = 0 then true else if sh = 1 then b else !b := by unfold fitsB; rw [hb]
  rw [hfit]
  rw [← hb] at HSQ
  unfold dcells at c0 c1 c2 c3 c4 c5 c6 hb0
  unfold dsv at HSQ ⊢
  have HB0 := Lib.hid hb0
  clear hA hb hfit hb0
  rcases (show sh = 0 ∨ sh = 1 ∨ sh = 2 by omega) with rfl | rfl | rfl
  · have e0 : (((0 : Nat) : Int) == 0) = true := by decide
    go_enter Tryz.func8, Tryz.ntmps8
    go_wp2_with fail
    go_ret
    exact ⟨rfl, HB0.out⟩
  · have e0 : (((1 : Nat) : Int) == 0) = false := by decide
    have e1 : (((1 : Nat) : Int) == 1) = true := by decide
    have e2 : (((1 : Nat) : Int) == 2) = false := by decide
    cases b
    all_goals
      go_enter Tryz.func8, Tryz.ntmps8
      go_wp2_with fail
      refine (HSQ.out _).mono ?_
      rintro e w' ⟨rfl, hb1⟩
      go_wp2_with fail
      go_ret
      exact ⟨rfl, HB0.out.trans (hb1.mono HB0.out.size)⟩
  · have e0 : (((2 : Nat) : Int) == 0) = false := by decide
    have e1 : (((2 : Nat) : Int) == 1) = false := by decide
    have e2 : (((2 : Nat) : Int) == 2) = true := by decide
    cases b
    all_goals
      go_enter Tryz.func8, Tryz.ntmps8
      go_wp2_with fail
      refine (HSQ.out _).mono ?_
      rintro e w' ⟨rfl, hb1⟩
      go_wp2_with fail
      go_ret
      exact ⟨rfl, HB0.out.trans (hb1.mono HB0.out.size)⟩
/-- The greatest of the first t sizes that the shape allows. -/
def mxT (sh : Nat) : Nat → Nat
  | 0 => 0
  | t + 1 => if fitsB sh (sz t) = true then max (mxT sh t) (sz t).dt else mxT sh t
theorem mxT_all : mxT 0 30 = 1558 ∧ mxT 1 30 = 1558 ∧ mxT 2 30 = 49 := by decide +kernel
theorem mxT_le (sh : Nat) : ∀ t, t ≤ 30 → mxT sh t ≤ 1558
  | 0, _ => Nat.zero_le _
  | t + 1, h => by
    have := mxT_le sh t (by omega)
    have h2 := dt_le t (by omega)
    unfold mxT
    split
    · omega
    · exact this
theorem mxT_most {sh : Nat} (h : sh ≤ 2) : mxT sh 30 = DV.mostOf sh := by
  rcases (show sh = 0 ∨ sh = 1 ∨ sh = 2 by omega) with rfl | rfl | rfl
  · exact mxT_all.1
  · exact mxT_all.2.1
  · exact mxT_all.2.2
set_option maxRecDepth 100000 in
set_option maxHeartbeats 3200000 in
theorem dmMost (sh : Nat) (hsh : sh ≤ 2) (w : World) : Calls Tryz.prog 13 #[.int .i64 sh] w fun e w' => e = .returned (.int .i64 (DV.mostOf sh : Nat)) ∧ Below w.heap.size w w' := by
  rw [← mxT_most hsh]
  obtain ⟨B0, hB0⟩ : ∃ B0, B0 = w.heap.size := ⟨_, rfl⟩
  rw [← hB0]
  have HB00 := Lib.hid hB0
  go_enter Tryz.func13, Tryz.ntmps13
  go_wp2_with fail
  refine (dmSizes w).mono ?_
  rintro e w1 ⟨TB, rfl, hb1, HT0⟩
  rw [← hB0] at hb1
  have HB0 := Lib.hid hb1
  clear hb1 hB0
  go_wp2_with fail
  go_loopw [3, 8] (fun m i wr => ∃ t : Nat, t ≤ 30 ∧ m = .int .i64 (mxT sh t : Nat) ∧ i = .int .i64 t ∧ Hid (Arr wr 28 TB tabV) ∧ Hid (Below B0 w wr)) (fun m i _ => 30 - (intOf i).toNat)
  case atStart => exact ⟨0, by omega, rfl, rfl, HT0, HB0⟩
  case round =>
    obtain ⟨wi, hwi⟩ : ∃ wi, wi = wr := ⟨_, rfl⟩
    rw [← hwi] at hrel ⊢
    clear hwi HT0 HB0
    obtain ⟨t, ht, rfl, rfl, HT, HB⟩ := hrel
    by_cases hlt : t < 30
    · have hti : (t : Int) < 30 := by omega
      have ht0 : (0 : Int) ≤ (t : Int) := by omega
      obtain ⟨v0, v1, v2, v3, v4, v5, v6⟩ := tabV_at t hlt
      have c0 := HT.out.cell? (t * 7)
      have c1 := HT.out.cell? (t * 7 + 1)
      have c2 := HT.out.cell? (t * 7 + 2)
      have c3 := HT.out.cell? (t * 7 + 3)
      have c4 := HT.out.cell? (t * 7 + 4)
      have c5 := HT.out.cell? (t * 7 + 5)
      have c6 := HT.out.cell? (t * 7 + 6)
      rw [v0] at c0
      rw [v1] at c1
      rw [v2] at c2
      rw [v3] at c3
      rw [v4] at c4
      rw [v5] at c5
      rw [v6] at c6
      obtain ⟨s, hs⟩ : ∃ s, s = sz t := ⟨_, rfl⟩
      have hsb : s.dt ≤ 1558 := by rw [hs]; exact dt_le t hlt
      rw [← hs] at c0 c1 c2 c3 c4 c5 c6
      have HSE := Lib.hid hs
      have hmx : mxT sh (t + 1) = if fitsB sh s = true then max (mxT sh t) s.dt else mxT sh t := by rw [hs]; rfl
      obtain ⟨m0, hm0⟩ : ∃ m0, m0 = mxT sh t := ⟨_, rfl⟩
      have hm0l : m0 ≤ 1558 := by rw [hm0]; exact mxT_le sh t ht
      rw [← hm0] at hmx ⊢
      have hfit := fun W => dmFits s sh hsh W
      obtain ⟨fb, hfb⟩ : ∃ fb, fb = fitsB sh s := ⟨_, rfl⟩
      rw [← hfb] at hmx hfit
      unfold dsv at hfit
      have HFIT := Lib.hid hfit
      have HMX := Lib.hid hmx
      clear v0 v1 v2 v3 v4 v5 v6 hs hmx hm0 hfb hfit
      have hbW : Below wi.heap.size wi (wi.alloc (.cells (dcells s).toArray 28)) := (Below.refl _ _).alloc (Nat.le_refl _) _
      have hA2 := Arr.new wi 28 (dcells s)
      obtain ⟨W2, hW2⟩ : ∃ W2, W2 = wi.alloc (.cells (dcells s).toArray 28) := ⟨_, rfl⟩
      rw [← hW2] at hbW hA2
      unfold dcells at hW2
      have hB0w : B0 ≤ wi.heap.size := by rw [HB00.out]; exact HB.out.size
      have HT2 := Lib.hid (HT.out.below hbW HT.out.lt)
      have HB2 : Hid (Below B0 w W2) := Lib.hid (HB.out.trans (hbW.mono hB0w))
      have HA2 := Lib.hid hA2
      have HW2 := Lib.hid hW2
      have HBL : Hid (B0 ≤ W2.heap.size) := Lib.hid (Nat.le_trans hB0w hbW.size)
      clear hbW hA2 hW2 HT HB hB0w
      go_wp2_with fail
      rw [← HW2.out]
      refine (HFIT.out W2).mono ?_
      rintro e w3 ⟨rfl, hb3⟩
      have HT3 := Lib.hid (HT2.out.below hb3 HT2.out.lt)
      have HA3 := Lib.hid (HA2.out.below hb3 HA2.out.lt)
      have HB3 : Hid (Below B0 w w3) := Lib.hid (HB2.out.trans (hb3.mono HBL.out))
      obtain ⟨G, hG⟩ : ∃ G, G = wi.heap.size := ⟨_, rfl⟩
      rw [← hG] at HA3 ⊢
      obtain ⟨d0, d1, d2, d3, d4, d5, d6⟩ := dcellsOf HA3.out
      clear hb3 HT2 HA2 HB2 HW2 hG c0 c1 c2 c3 c4 c5 c6 HFIT HBL
      cases fb
      · have e := HMX.out
        rw [if_neg (by decide)] at e
        have HE := Lib.hid e
        clear e
        go_wp2_with fail
        go_roundw
        case rel => exact ⟨t + 1, by omega, by rw [HE.out], by go_num, HT3, HB3⟩
        case measure => simp [intOf]; omega
      · have e := HMX.out
        rw [if_pos rfl] at e
        have HE := Lib.hid e
        clear e
        obtain ⟨y, hy⟩ : ∃ y, y = max m0 s.dt := ⟨_, rfl⟩
        have hmaxI : max (m0 : Int) (s.dt : Int) = (y : Int) := by omega
        rw [← hy] at HE
        clear hy
        go_wp2_with fail
        go_roundw
        case rel => exact ⟨t + 1, by omega, by rw [HE.out], by go_num, HT3, HB3⟩
        case measure => simp [intOf]; omega
    · obtain rfl : t = 30 := by omega
      go_wp2_with fail
      go_ret
      exact ⟨rfl, HB.out⟩
end Go.Proofs.YtcadknfcahmdcaaGreat
