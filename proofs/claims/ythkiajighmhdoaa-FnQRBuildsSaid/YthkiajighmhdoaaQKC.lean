/-
  spec: dimensions, middles, room, walked. No condition beyond the bounds that each theorem states.
-/
import Derived.Test.YthkiajighmhdoaaQBI
import Derived.Test.YthkiajighmhdoaaCPM
import Derived.Test.YthkiajighmhdoaaRows
import Derived.RegionTactic
import Derived.ChangeAlike
import Derived.Outline
import Derived.Deep.QuietTactic
import Derived.BigQuiet
import Derived.Laws.Tables
import Derived.Laws.Rows
namespace Go.Proofs.Ythkiajighmhdoaa
open Go.RowKit Go.Qz Go.Qz.QW Go.Qz.QI
set_option linter.unusedVariables false

set_option maxRecDepth 100000 in
set_option maxHeartbeats 800000 in
theorem dimension (n : Nat) (hn : n ≤ 1000) (w : World) :
    Calls Try.prog 35 #[.int .i64 n] w fun e w' => e = .returned (.int .i64 (dimOf n : Nat)) ∧ w = w' := by
  obtain ⟨D, hD⟩ : ∃ D, D = dimOf n := ⟨_, rfl⟩
  have e1 : (17 : Int) + 4 * (n : Int) = (D : Int) := by rw [hD]; unfold dimOf; omega
  rw [← hD]
  clear hD
  go_enter Try.func35, Try.ntmps35
  go_wp2_with fail
  go_ret
  exact ⟨by first | rfl | (rw [e1]), rfl⟩

/-- What is checked of all versions' middles by reckoning. -/
theorem cen_all : ((List.range 39).all fun n => decide (2 ≤ manyOf (n + 2)) && (decide (manyOf (n + 2) ≤ 7) && (decide (stepOf (n + 2) ≤ 40) && decide (stepOf (n + 2) * (manyOf (n + 2) - 2) + 7 ≤ dimOf (n + 2))))) = true := by decide +kernel
theorem cen_fine (n : Nat) (h1 : 2 ≤ n) (h2 : n ≤ 40) : 2 ≤ manyOf n ∧ manyOf n ≤ 7 ∧ stepOf n ≤ 40 ∧ stepOf n * (manyOf n - 2) + 7 ≤ dimOf n := by
  have h := cen_all
  rw [List.all_eq_true] at h
  have h := h (n - 2) (by simp; omega)
  rw [show n - 2 + 2 = n by omega] at h
  simpa only [Bool.and_eq_true, decide_eq_true_iff] using h
def CenPost (n : Nat) (w : World) (e : Ending) (w' : World) : Prop := ∃ A, e = .returned (.slice A (manyOf n) (manyOf n)) ∧ (2 ≤ n → ∃ b, A = some ⟨b, 0, none⟩ ∧ IA w' 3 b (cenOf n) ∧ w.heap.size ≤ b) ∧ (n = 1 → A = none) ∧ Below w.heap.size w w'
/-- The middles so far. -/
def cenTo (n k : Nat) : List Nat := (List.range (manyOf n)).map fun i => if i < k then (if i = 0 then 6 else dimOf n - 7 - stepOf n * (manyOf n - 1 - i)) else 0
theorem cenTo_full (n : Nat) : cenTo n (manyOf n) = cenOf n := by
  unfold cenTo cenOf
  exact List.map_congr_left fun i hi => by rw [if_pos (by simpa using hi)]
theorem CenPost.mk {n k G : Nat} {w w' : World} (hk : k = manyOf n) (h : IA w' 3 G (cenTo n (manyOf n))) (hG : w.heap.size ≤ G) (hb : Below w.heap.size w w') (hn : n ≠ 1) : CenPost n w (.returned (.slice (some ⟨G, 0, none⟩) k k)) w' := by
  subst hk
  rw [cenTo_full] at h
  exact ⟨_, rfl, fun _ => ⟨G, rfl, h, hG⟩, fun h => absurd h hn, hb⟩
theorem cenTo_zero (n : Nat) : cenTo n 0 = List.replicate (manyOf n) 0 := by
  unfold cenTo
  apply List.ext_getElem (by simp)
  intro j h1 h2
  simp
theorem cenTo_set (n k : Nat) : (cenTo n k).set k (if k = 0 then 6 else dimOf n - 7 - stepOf n * (manyOf n - 1 - k)) = cenTo n (k + 1) := by
  apply List.ext_getElem (by simp [cenTo])
  intro j h1 h2
  simp only [cenTo, List.getElem_set, List.getElem_map, List.getElem_range]
  by_cases e : k = j
  · subst e; simp
  · rw [if_neg e]
    by_cases h : j < k
    · simp [h, show j < k + 1 by omega]
    · simp [h, show ¬ j < k + 1 by omega]
theorem cenTo_len (n k : Nat) : (cenTo n k).length = manyOf n := by simp [cenTo]
theorem Try.infoIntC : (Try.prog.info? 3).map (fun i => (i.zero, i.size, i.bytes)) = some (some (.int .i64 0), 1, 8) := by kernel_rfl

set_option maxRecDepth 100000 in
set_option maxHeartbeats 3200000 in
theorem centers (n : Nat) (h1 : 1 ≤ n) (h2 : n ≤ 40) (w : World) :
    Calls Try.prog 36 #[.int .i64 n] w (CenPost n w) := by
  by_cases hn : n = 1
  · subst hn
    go_enter Try.func36, Try.ntmps36
    go_wp2_with fail
    go_ret
    exact ⟨none, rfl, fun h => by omega, fun _ => rfl, Below.refl _ _⟩
  · obtain ⟨c1, c2, c3, c4⟩ := cen_fine n (by omega) h2
    obtain ⟨M, hM⟩ : ∃ M, M = manyOf n := ⟨_, rfl⟩
    obtain ⟨S, hS⟩ : ∃ S, S = stepOf n := ⟨_, rfl⟩
    obtain ⟨D, hD⟩ : ∃ D, D = dimOf n := ⟨_, rfl⟩
    have hM2 : M = n / 7 + 2 := by rw [hM]; unfold manyOf; rw [if_neg hn]
    rw [← hM, ← hS, ← hD] at c4
    rw [← hM] at c1 c2
    rw [← hS] at c3
    have hne : ((n : Int) == 1) = false := by simp; omega
    have eM : (n : Int) / 7 + 2 = (M : Int) := by omega
    obtain ⟨u, hu⟩ : ∃ u, u = n * 4 + M * 2 + 1 := ⟨_, rfl⟩
    obtain ⟨d, hd⟩ : ∃ d, d = M * 2 - 2 := ⟨_, rfl⟩
    obtain ⟨q, hq⟩ : ∃ q, q = u / d := ⟨_, rfl⟩
    have hS2 : S = if n = 32 then 26 else q * 2 := by rw [hS]; unfold stepOf; rw [← hM, hq, hu, hd]
    have eU : (n : Int) * 4 + (M : Int) * 2 + 1 = (u : Int) := by omega
    have eD : (M : Int) * 2 - 2 = (d : Int) := by omega
    have eQ : (u : Int) / (d : Int) = (q : Int) := by rw [hq]; simp
    have eQ2 : (u : Int).tdiv (d : Int) = (q : Int) := by rw [Int.tdiv_eq_ediv_of_nonneg (by omega)]; exact eQ
    have hql : q ≤ 400 := by rw [hq]; have := Nat.div_le_self u d; omega
    have hd0 : ¬ (d : Int) = 0 := by omega
    have hd1 : (0 : Int) < (d : Int) := by omega
    have hmk := fun W => run_make1 (P := Try.prog) 79 3 (.int .i64 0) 8 Try.underlying79 Try.infoIntC rfl (by decide) M (by omega) .i64 .i64 M rfl W
    have HIA := Lib.hid (IA.zeros w 3 M)
    have HB0 := Lib.hid ((Below.refl w.heap.size w).alloc (Nat.le_refl _) (.cells (zeros M (.int .i64 0)) 3))
    have hM0 : (0 : Int) < (M : Int) := by omega
    have HS2 := Lib.hid hS2
    have HMM := Lib.hid hM
    have HSS := Lib.hid hS
    have HDD := Lib.hid hD
    have HC4 := Lib.hid c4
    have HN := Lib.hid hn
    clear hM hS hD hM2 hu hd hq hS2 hn c4
    have hz0 : (zeros M (.int .i64 0))[0]? = some (Value.int .i64 0) := by
      show (List.replicate M (Value.int .i64 0)).toArray[0]? = _
      rw [List.getElem?_toArray, List.getElem?_replicate, if_pos (by omega)]
    have HW0 : Hid (IA (w.alloc (.cells ((zeros M (.int .i64 0)).setIfInBounds 0 (.int .i64 6)) 3)) 3 w.heap.size (cenTo n 1) ∧ Below w.heap.size w (w.alloc (.cells ((zeros M (.int .i64 0)).setIfInBounds 0 (.int .i64 6)) 3))) := Lib.hid ⟨by
      have h5 := cenTo_set n 0
      rw [cenTo_zero, if_pos rfl, ← HMM.out] at h5
      rw [← h5]
      unfold IA
      rw [List.map_set, List.map_replicate]
      have h6 := Arr.new w 3 ((List.replicate M (Value.int .i64 0)).set 0 (.int .i64 6))
      have h7 : ((List.replicate M (Value.int .i64 0)).set 0 (.int .i64 6)).toArray = (zeros M (.int .i64 0)).setIfInBounds 0 (.int .i64 6) := by
        show _ = (List.replicate M (Value.int .i64 0)).toArray.setIfInBounds 0 (.int .i64 6)
        rw [List.setIfInBounds_toArray]
      rw [h7] at h6
      exact h6, (Below.refl w.heap.size w).alloc (Nat.le_refl _) _⟩
    have hD200 : D ≤ 177 := by rw [HDD.out]; unfold dimOf; omega
    by_cases h32 : n = 32
    · have HS3 : Hid (S = 26) := Lib.hid (by rw [HS2.out, if_pos h32])
      subst h32
      obtain rfl : M = 6 := by rw [HMM.out]; decide
      obtain rfl : S = 26 := HS3.out
      obtain rfl : D = 145 := by rw [HDD.out]; decide
      have hmk := fun W => run_make1 (P := Try.prog) 79 3 (.int .i64 0) 8 Try.underlying79 Try.infoIntC rfl (by decide) 6 (by omega) .i64 .i64 6 rfl W
      clear eM eU eD eQ eQ2 hd0 hd1 hne hM0
      go_enter Try.func36, Try.ntmps36
      go_wp2_with fail
      obtain ⟨W0, hW0⟩ : ∃ W0, W0 = w.alloc (.cells ((zeros 6 (.int .i64 0)).setIfInBounds 0 (.int .i64 6)) 3) := ⟨_, rfl⟩
      obtain ⟨G, hG⟩ : ∃ G, G = w.heap.size := ⟨_, rfl⟩
      rw [← hW0, ← hG] at HW0 ⊢
      have HGE := Lib.hid (show w.heap.size ≤ G by omega)
      have HGQ := Lib.hid hG
      clear hG hW0 hmk hz0
      go_loopw [6] (fun i wr => ∃ k : Nat, 1 ≤ k ∧ k ≤ 6 ∧ i = .int .i64 k ∧ Hid (IA wr 3 G (cenTo 32 k) ∧ Below G w wr)) (fun i _ => 6 - (intOf i).toNat)
      case atStart => exact ⟨1, by omega, by omega, rfl, HW0⟩
      case round =>
        obtain ⟨k, hk1, hk, rfl, HW⟩ := hrel
        clear HW0
        by_cases hlt : k < 6
        · have hkM : (k : Int) < 6 := by omega
          have hk0 : (0 : Int) ≤ (k : Int) := by omega
          obtain ⟨r, hr⟩ : ∃ r, r = 26 * (6 - 1 - k) := ⟨_, rfl⟩
          obtain ⟨y, hy⟩ : ∃ y, y = 145 - 7 - r := ⟨_, rfl⟩
          have hr2 : r ≤ 26 * 4 := by omega
          obtain ⟨t, ht⟩ : ∃ t, t = 6 - 1 - k := ⟨_, rfl⟩
          have e1 : (5 : Int) - (k : Int) = (t : Int) := by omega
          have e2 : (26 : Int) * (t : Int) = (r : Int) := by omega
          have e3 : (138 : Int) - (r : Int) = (y : Int) := by omega
          have HST : Hid (Calls Try.prog 35 #[.int .i64 32] wr fun e w' => e = .returned (.int .i64 145) ∧ wr = w') := Lib.hid (dimension 32 (by omega) wr)
          have c0 := HW.out.1.cell (j := k) (by rw [cenTo_len, ← HMM.out]; exact hlt)
          have c1 := HW.out.1.free k
          obtain ⟨x0, hx0⟩ : ∃ x0, x0 = nth (cenTo 32 k) k := ⟨_, rfl⟩
          rw [← hx0] at c0
          have HN2 : Hid (IA (wr.setCell ⟨G, k, none⟩ (.int .i64 (y : Nat))) 3 G (cenTo 32 (k + 1)) ∧ Below G w (wr.setCell ⟨G, k, none⟩ (.int .i64 (y : Nat)))) := Lib.hid ⟨by
            have h5 := HW.out.1.set_ k y
            have h6 := cenTo_set 32 k
            rw [if_neg (show ¬ k = 0 by omega), ← HDD.out, ← HSS.out, ← HMM.out, ← hr, ← hy] at h6
            rw [h6] at h5; exact h5, HW.out.2.setCell (p := ⟨G, k, none⟩) (Nat.le_refl _) _⟩
          have hrl : r ≤ 200 := by omega
          clear hr hy hr2 ht hx0 HW
          go_wp2_with fail
          refine HST.out.mono ?_
          rintro e w5 ⟨rfl, rfl⟩
          go_wp2_with fail
          go_roundw
          case rel => exact ⟨k + 1, by omega, by omega, by go_num, HN2⟩
          case measure => simp [intOf]; omega
        · obtain rfl : k = 6 := by omega
          have hkM : True := trivial
          go_wp2_with fail
          go_ret
          exact CenPost.mk HMM.out (HMM.out ▸ HW.out.1) HGE.out (by rw [← HGQ.out]; exact HW.out.2) (by have := HN.out; omega)
    · have HS3 : Hid (S = q * 2) := Lib.hid (by rw [HS2.out, if_neg h32])
      have hne2 : ((n : Int) == 32) = false := by simp; omega
      have eS : (q : Int) * 2 = (S : Int) := by rw [HS3.out]; omega
      clear h32
      go_enter Try.func36, Try.ntmps36
      go_wp2_with fail
      clear eS hne2
      obtain ⟨W0, hW0⟩ : ∃ W0, W0 = w.alloc (.cells ((zeros M (.int .i64 0)).setIfInBounds 0 (.int .i64 6)) 3) := ⟨_, rfl⟩
      obtain ⟨G, hG⟩ : ∃ G, G = w.heap.size := ⟨_, rfl⟩
      rw [← hW0, ← hG] at HW0 ⊢
      have HGE := Lib.hid (show w.heap.size ≤ G by omega)
      have HGQ := Lib.hid hG
      clear hG hW0 hmk hz0 eM eU eD eQ eQ2 hd0 hd1
      go_loopw [6] (fun i wr => ∃ k : Nat, 1 ≤ k ∧ k ≤ M ∧ i = .int .i64 k ∧ Hid (IA wr 3 G (cenTo n k) ∧ Below G w wr)) (fun i _ => M - (intOf i).toNat)
      case atStart => exact ⟨1, by omega, by omega, rfl, HW0⟩
      case round =>
        obtain ⟨k, hk1, hk, rfl, HW⟩ := hrel
        clear HW0
        by_cases hlt : k < M
        · have hkM : (k : Int) < (M : Int) := by omega
          have hk0 : (0 : Int) ≤ (k : Int) := by omega
          obtain ⟨r, hr⟩ : ∃ r, r = S * (M - 1 - k) := ⟨_, rfl⟩
          obtain ⟨y, hy⟩ : ∃ y, y = D - 7 - r := ⟨_, rfl⟩
          have hr2 : r ≤ S * (M - 2) := by rw [hr]; exact Nat.mul_le_mul_left _ (by omega)
          have hr3 := HC4.out
          obtain ⟨t, ht⟩ : ∃ t, t = M - 1 - k := ⟨_, rfl⟩
          have e1 : (M : Int) - 1 - (k : Int) = (t : Int) := by omega
          have e2 : (S : Int) * (t : Int) = (r : Int) := by rw [hr, ← ht]; simp
          have e3 : (D : Int) - 7 - (r : Int) = (y : Int) := by omega
          have HST : Hid (Calls Try.prog 35 #[.int .i64 n] wr fun e w' => e = .returned (.int .i64 (D : Nat)) ∧ wr = w') := Lib.hid (by rw [HDD.out]; exact dimension n (by omega) wr)
          have c0 := HW.out.1.cell (j := k) (by rw [cenTo_len, ← HMM.out]; exact hlt)
          have c1 := HW.out.1.free k
          obtain ⟨x0, hx0⟩ : ∃ x0, x0 = nth (cenTo n k) k := ⟨_, rfl⟩
          rw [← hx0] at c0
          have HN2 : Hid (IA (wr.setCell ⟨G, k, none⟩ (.int .i64 (y : Nat))) 3 G (cenTo n (k + 1)) ∧ Below G w (wr.setCell ⟨G, k, none⟩ (.int .i64 (y : Nat)))) := Lib.hid ⟨by
            have h5 := HW.out.1.set_ k y
            have h6 := cenTo_set n k
            rw [if_neg (show ¬ k = 0 by omega), ← HDD.out, ← HSS.out, ← HMM.out, ← hr, ← hy] at h6
            rw [h6] at h5; exact h5, HW.out.2.setCell (p := ⟨G, k, none⟩) (Nat.le_refl _) _⟩
          have hrl : r ≤ 200 := by omega
          clear hr hy hr2 hr3 ht hx0 HW
          go_wp2_with fail
          refine HST.out.mono ?_
          rintro e w5 ⟨rfl, rfl⟩
          go_wp2_with fail
          go_roundw
          case rel => exact ⟨k + 1, by omega, by omega, by go_num, HN2⟩
          case measure => simp [intOf]; omega
        · obtain rfl : k = M := by omega
          have hkM : ((k : Int) < (k : Int)) = False := by simp
          go_wp2_with fail
          go_ret
          exact CenPost.mk HMM.out (HMM.out ▸ HW.out.1) HGE.out (by rw [← HGQ.out]; exact HW.out.2) (by have := HN.out; omega)

theorem room_all : ((List.range 40).all fun n => decide ((roomOf (n + 1) : Int) = (dimOf (n + 1) : Int) * (dimOf (n + 1) : Int) - 192 - 2 * ((dimOf (n + 1) : Int) - 16) - 31 - (if 7 ≤ n + 1 then 36 else 0) - (if 0 < manyOf (n + 1) then 25 * ((manyOf (n + 1) : Int) * (manyOf (n + 1) : Int) - 3) - 10 * ((manyOf (n + 1) : Int) - 2) else 0)) && decide (roomOf (n + 1) ≤ 32000)) = true := by decide +kernel
theorem room_fine (n : Nat) (h1 : 1 ≤ n) (h2 : n ≤ 40) : (roomOf n : Int) = (dimOf n : Int) * (dimOf n : Int) - 192 - 2 * ((dimOf n : Int) - 16) - 31 - (if 7 ≤ n then 36 else 0) - (if 0 < manyOf n then 25 * ((manyOf n : Int) * (manyOf n : Int) - 3) - 10 * ((manyOf n : Int) - 2) else 0) ∧ roomOf n ≤ 32000 := by
  have h := room_all
  rw [List.all_eq_true] at h
  have h := h (n - 1) (by simp; omega)
  rw [show n - 1 + 1 = n by omega] at h
  simpa only [Bool.and_eq_true, decide_eq_true_iff] using h
def IntPost (x : Nat) (w : World) (e : Ending) (w' : World) : Prop := e = .returned (.int .i64 (x : Nat)) ∧ Below w.heap.size w w'
theorem IntPost.mk {x : Nat} {y : Int} {w w' : World} (h : y = (x : Nat)) (hb : Below w.heap.size w w') : IntPost x w (.returned (.int .i64 y)) w' := ⟨by rw [h], hb⟩
set_option maxRecDepth 100000 in
set_option maxHeartbeats 3200000 in
theorem room (n : Nat) (h1 : 1 ≤ n) (h2 : n ≤ 40) (w : World) :
    Calls Try.prog 16 #[.int .i64 n] w (IntPost (roomOf n) w) := by
  obtain ⟨hr, hrl⟩ := room_fine n h1 h2
  have HC := Lib.hid (centers n h1 h2 w)
  obtain ⟨M, hM⟩ : ∃ M, M = manyOf n := ⟨_, rfl⟩
  have hD200 : dimOf n ≤ 177 := by unfold dimOf; omega
  have hD201 : 21 ≤ dimOf n := by unfold dimOf; omega
  have HDI := Lib.hid (dimension n (by omega) w)
  obtain ⟨D, hD⟩ : ∃ D, D = dimOf n := ⟨_, rfl⟩
  rw [← hM, ← hD] at hr
  rw [← hD] at hD200 hD201 HDI
  obtain ⟨r1, hr1⟩ : ∃ r1, r1 = D * D := ⟨_, rfl⟩
  have hr1l : r1 ≤ 177 * 177 := by rw [hr1]; exact Nat.mul_le_mul hD200 hD200
  have e1 : (D : Int) * (D : Int) = (r1 : Int) := by rw [hr1]; simp
  obtain ⟨r2, hr2⟩ : ∃ r2, r2 = M * M := ⟨_, rfl⟩
  have hMl : M ≤ 7 := by
    by_cases h : n = 1
    · rw [hM, h]; decide
    · rw [hM]; exact (cen_fine n (by omega) h2).2.1
  have hr2l : r2 ≤ 7 * 7 := by rw [hr2]; exact Nat.mul_le_mul hMl hMl
  have e2 : (M : Int) * (M : Int) = (r2 : Int) := by rw [hr2]; simp
  rw [e1, e2] at hr
  have HR := Lib.hid hr
  have HMM := Lib.hid hM
  obtain ⟨X, hX⟩ : ∃ X, X = roomOf n := ⟨_, rfl⟩
  rw [← hX] at HR ⊢
  clear hr hM hD hr1 hr2 hX
  by_cases h7 : 7 ≤ n
  · have h7i : (7 : Int) ≤ (n : Int) := by omega
    by_cases h0 : 0 < M
    · have h0i : (0 : Int) < (M : Int) := by omega
      have HX : Hid ((X : Int) = r1 - 192 - 2 * ((D : Int) - 16) - 31 - 36 - (25 * ((r2 : Int) - 3) - 10 * ((M : Int) - 2))) := Lib.hid (by have := HR.out; rw [if_pos h7, if_pos h0] at this; exact this)
      clear h7 h0
      go_enter Try.func16, Try.ntmps16
      go_wp2_with fail
      refine HDI.out.mono ?_
      rintro e w1 ⟨rfl, rfl⟩
      go_wp2_with fail
      refine HC.out.mono ?_
      rintro e w1 ⟨A, rfl, _, _, hb⟩
      rw [← HMM.out]
      have HB := Lib.hid hb
      clear hb
      go_wp2_with fail
      go_ret
      exact IntPost.mk (by rw [HX.out]) HB.out
    · exact absurd (cen_fine n (by omega) h2).1 (by rw [← HMM.out]; omega)
  · have h7i : ((7 : Int) ≤ (n : Int)) = False := by simp; omega
    by_cases h0 : 0 < M
    · have h0i : (0 : Int) < (M : Int) := by omega
      have HX : Hid ((X : Int) = r1 - 192 - 2 * ((D : Int) - 16) - 31 - (25 * ((r2 : Int) - 3) - 10 * ((M : Int) - 2))) := Lib.hid (by have := HR.out; rw [if_neg h7, if_pos h0] at this; rw [this]; omega)
      clear h7 h0
      go_enter Try.func16, Try.ntmps16
      go_wp2_with fail
      refine HDI.out.mono ?_
      rintro e w1 ⟨rfl, rfl⟩
      go_wp2_with fail
      refine HC.out.mono ?_
      rintro e w1 ⟨A, rfl, _, _, hb⟩
      rw [← HMM.out]
      have HB := Lib.hid hb
      clear hb
      go_wp2_with fail
      go_ret
      exact IntPost.mk (by rw [HX.out]) HB.out
    · have h0i : ((0 : Int) < (M : Int)) = False := by simp; omega
      have h0d : decide (0 < M) = false := by simp; omega
      have HX : Hid ((X : Int) = r1 - 192 - 2 * ((D : Int) - 16) - 31) := Lib.hid (by have := HR.out; rw [if_neg h7, if_neg h0] at this; rw [this]; omega)
      clear h7 h0
      go_enter Try.func16, Try.ntmps16
      go_wp2_with fail
      refine HDI.out.mono ?_
      rintro e w1 ⟨rfl, rfl⟩
      go_wp2_with fail
      refine HC.out.mono ?_
      rintro e w1 ⟨A, rfl, _, _, hb⟩
      rw [← HMM.out]
      have HB := Lib.hid hb
      clear hb
      go_wp2_with fail
      go_ret
      exact IntPost.mk (by rw [HX.out]) HB.out
end Go.Proofs.Ythkiajighmhdoaa
