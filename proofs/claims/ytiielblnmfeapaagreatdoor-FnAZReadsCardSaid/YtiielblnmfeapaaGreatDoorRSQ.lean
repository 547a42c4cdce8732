/-
  Several texts of this claim in one. No condition beyond the bounds that each theorem states.
-/
import Derived.Test.YtiielblnmfeapaaGreatDoorRSK
import Derived.Test.YtiielblnmfeapaaGreatDoorBase
import Derived.Deep.QuietTactic
import Derived.BigQuiet
import Derived.Deep.RegionHeld3
import Derived.Laws.CopyOwn
import Derived.Lib.Builder
import Derived.Deep.DeepCutAuto
namespace Go.Qz.RS
open Go.Qz
set_option linter.unusedVariables false

/-- The coefficient at a place, counted from the highest, of a polynomial laid into n places. -/
def pat (l : List Nat) (n j : Nat) : Nat := if n ≤ l.length + j then nth l (l.length + j - n) else 0
/-- The sum, so far. -/
def rawTo (a b : List Nat) (n k : Nat) : List Nat := (List.range n).map fun j => if j < k then pat a n j ^^^ pat b n j else 0
/-- The sum of two polynomials. -/
def plus (a b : List Nat) : List Nat := tidy (rawTo a b (max a.length b.length) (max a.length b.length))

theorem rawTo_length (a b : List Nat) (n k : Nat) : (rawTo a b n k).length = n := by simp [rawTo]
theorem rawTo_nth (a b : List Nat) (n k j : Nat) (hj : j < n) : nth (rawTo a b n k) j = if j < k then pat a n j ^^^ pat b n j else 0 := nth_map_range _ _ _ hj
theorem rawTo_zero (a b : List Nat) (n : Nat) : rawTo a b n 0 = List.replicate n 0 := by
  apply List.ext_getElem?
  intro i
  by_cases hl : i < n
  · simp [rawTo, hl]
  · rw [List.getElem?_eq_none (by simpa [rawTo] using hl), List.getElem?_eq_none (by simpa using hl)]
theorem rawTo_set (a b : List Nat) (n k : Nat) : (rawTo a b n k).set k (pat a n k ^^^ pat b n k) = rawTo a b n (k + 1) := by
  apply List.ext_getElem?
  intro i
  rw [List.getElem?_set]
  by_cases h : i = k
  · subst h
    by_cases hl : i < n <;> simp [rawTo, hl]
  · rw [if_neg (fun e => h e.symm)]
    by_cases hl : i < n
    · simp only [rawTo, List.getElem?_map, List.getElem?_range hl, Option.map_some]
      by_cases hk : i < k
      · simp [hk, show i < k + 1 by omega]
      · simp [hk, show ¬ i < k + 1 by omega]
    · rw [List.getElem?_eq_none (by simpa [rawTo] using hl), List.getElem?_eq_none (by simpa [rawTo] using hl)]

theorem tidy_head : ∀ l : List Nat, l ≠ [] → nth (tidy l) 0 = 0 → tidy l = [0]
  | [], h, _ => absurd rfl h
  | [a], _, h => by
    have : a = 0 := h
    subst this; rfl
  | a :: b :: t, _, h => by
    unfold tidy at h ⊢
    split at h
    · rename_i h0
      rw [if_pos h0]
      exact tidy_head (b :: t) (by simp) h
    · rename_i h0
      exact absurd h h0
theorem tidy_tidy : ∀ l : List Nat, tidy (tidy l) = tidy l
  | [] => rfl
  | [a] => rfl
  | a :: b :: t => by
    by_cases h0 : a = 0
    · have : tidy (a :: b :: t) = tidy (b :: t) := by rw [tidy, if_pos h0]
      rw [this]; exact tidy_tidy (b :: t)
    · have : tidy (a :: b :: t) = a :: b :: t := by rw [tidy, if_neg h0]
      rw [this, this]
theorem plus_zero (b : List Nat) (hb : b ≠ []) (ht : tidy b = b) : plus [0] b = b := by
  have hl := List.length_pos_iff.2 hb
  unfold plus
  rw [show max [0].length b.length = b.length by simp; omega]
  rw [show rawTo [0] b b.length b.length = b from ?_, ht]
  apply List.ext_getElem?
  intro i
  by_cases h : i < b.length
  · have hp : pat [0] b.length i = 0 := by
      unfold pat
      split
      · have : ([0] : List Nat).length + i - b.length = 0 := by simp; omega
        rw [this]; rfl
      · rfl
    have hq : pat b b.length i = nth b i := by
      unfold pat
      rw [if_pos (by omega), show b.length + i - b.length = i by omega]
    rw [rawTo, List.getElem?_map, List.getElem?_range h, List.getElem?_eq_getElem h, Option.map_some, if_pos h, hp, hq, Nat.zero_xor, nth_eq h]
  · rw [List.getElem?_eq_none (by simpa [rawTo] using h), List.getElem?_eq_none (by simpa using h)]
theorem rawTo_comm (a b : List Nat) (n k : Nat) : rawTo a b n k = rawTo b a n k := by
  unfold rawTo
  congr 1; funext j; rw [Nat.xor_comm]
theorem plus_comm (a b : List Nat) : plus a b = plus b a := by
  unfold plus; rw [rawTo_comm, Nat.max_comm]
end Go.Qz.RS
namespace Go.Proofs.YtiielblnmfeapaaGreatDoor
open Go.RowKit Go.Qz Go.Qz.RS
set_option linter.unusedVariables false

theorem own_mono {w : World} {b b' : Nat} {e : TypeId} {size : Nat} {v : Value} {n : Nat} {xs : List Value} (h : w.ownsRow b e size v n xs) (hb : b' ≤ b) : w.ownsRow b' e size v n xs := by
  obtain ⟨h1, h2⟩ := h
  refine ⟨h1, ?_⟩
  rcases h2 with h | ⟨g, cap, cur, h3, h4, h5⟩
  · exact .inl h
  · exact .inr ⟨g, cap, cur, h3, Nat.le_trans hb h4, h5⟩

set_option maxRecDepth 100000 in
set_option maxHeartbeats 1600000 in
theorem rsPlus (a b : List Nat) (ha0 : a ≠ []) (ha : a.length < 1000000) (hb : b.length < 1000000) (hav : ∀ j, nth a j < 65536) (hbv : ∀ j, nth b j < 65536) (A B : Option Addr) (c d : Nat) (w : World)
    (hA : Rd w A a.length (fun j => .int .i64 (nth a j : Nat))) (hB : Rd w B b.length (fun j => .int .i64 (nth b j : Nat))) :
    Calls Tryz.prog 79 #[.slice A a.length c, .slice B b.length d] w fun e w' => ∃ v, e = .returned v ∧ w'.ownsRow w.heap.size 3 1 v (plus a b).length ((plus a b).map fun x : Nat => Value.int .i64 (x : Int)) ∧ Below w.heap.size w w' := by
  have hap := List.length_pos_iff.2 ha0
  have HAV := Lib.hid hav
  have HBV := Lib.hid hbv
  have HA := Lib.hid hA
  have HB := Lib.hid hB
  clear hA hB hav hbv
  by_cases hlen : a.length < b.length
  · have hmk := fun W => run_make1 (P := Tryz.prog) 24 3 (.int .i64 0) 8 Tryz.underlying24 Tryz.infoInt rfl (by decide) b.length (by omega) .i64 .i64 b.length rfl W
    have hnpos : 0 < b.length := by omega
    have hpl : plus a b = tidy (rawTo a b b.length b.length) := by unfold plus; rw [show max a.length b.length = b.length by omega]
    have HP := Lib.hid hpl
    clear hpl
    go_enter Tryz.func79, Tryz.ntmps79
    go_wp2_with fail
    have hI := IA.zeros w 3 b.length
    rw [← rawTo_zero a b] at hI
    have hB0 : Below w.heap.size w (w.alloc (.cells (zeros b.length (.int .i64 0)) 3)) := (Below.refl _ _).alloc (Nat.le_refl _) _
    obtain ⟨w0, hw0⟩ : ∃ w0, w0 = w.alloc (.cells (zeros b.length (.int .i64 0)) 3) := ⟨_, rfl⟩
    rw [← hw0] at hI hB0 ⊢
    obtain ⟨M, hM⟩ : ∃ M, M = w.heap.size := ⟨_, rfl⟩
    rw [← hM] at hI hB0 ⊢
    have HMM := Lib.hid hM
    clear hw0 hmk hM
    go_loopw [7] (fun i wr => ∃ k : Nat, k ≤ b.length ∧ i = .int .i64 k ∧ IA wr 3 M (rawTo a b b.length k) ∧ Below M w wr) (fun i _ => b.length - (intOf i).toNat)
    case atStart => exact ⟨0, by omega, rfl, hI, hB0⟩
    case round =>
      obtain ⟨k, hk, rfl, hI2, hbel⟩ := hrel
      clear hI hB0
      by_cases hlt : k < b.length
      · have hrl := rawTo_length a b b.length k
        have hz := hI2.cell (j := k) (by omega)
        rw [rawTo_nth _ _ _ _ _ hlt, if_neg (by omega)] at hz
        have hfz := hI2.free k
        by_cases has : b.length ≤ a.length + k
        · obtain ⟨ia, hia⟩ : ∃ ia, ia = a.length + k - b.length := ⟨_, rfl⟩
          obtain ⟨ib, hib⟩ : ∃ ib, ib = b.length + k - b.length := ⟨_, rfl⟩
          have eA : (a.length : Int) - (b.length : Nat) + (k : Nat) = (ia : Nat) := by omega
          have eB : (b.length : Int) - (b.length : Nat) + (k : Nat) = (ib : Nat) := by omega
          obtain rfl : k = ib := by omega
          clear eB
          obtain ⟨bA, oA, rfl, lA, cA⟩ := HA.out (by omega)
          obtain ⟨bB, oB, rfl, lB, cB⟩ := HB.out (by omega)
          rw [← HMM.out] at lA lB
          have hpa : pat a b.length k = nth a ia := by unfold pat; rw [if_pos (by omega), ← hia]
          have hpb : pat b b.length k = nth b k := by unfold pat; rw [if_pos (by omega), ← hib]
          have hAv := HAV.out ia
          have hBv := HBV.out k
          have cA := cA ia (by omega)
          have cB := cB k (by omega)
          dsimp only at cA cB
          have cA2 : wr.cell? ⟨bA, oA + ia, none⟩ = some (.int .i64 (nth a ia : Nat)) := by rw [← cA]; exact hbel.cell lA
          have x0 : bits .xor .i64 0 (nth a ia : Nat) = (nth a ia : Nat) := by have := i64_xor 0 (nth a ia) (by omega) (by omega); rwa [Nat.zero_xor] at this
          have x1 := i64_xor (nth a ia) (nth b k) (by omega) (by omega)
          have hI3 := hI2.set_ k (nth a ia)
          have hz3 := hI3.cell (j := k) (by simp; omega)
          have hf3 := hI3.free k
          rw [nth_set (by omega), if_pos rfl] at hz3
          have cB3 : (wr.setCell ⟨M, k, none⟩ (.int .i64 (nth a ia : Nat))).cell? ⟨bB, oB + k, none⟩ = some (.int .i64 (nth b k : Nat)) := by rw [← cB]; exact (hbel.setCell (p := ⟨M, k, none⟩) (Nat.le_refl _) _).cell lB
          have hI4 := hI3.set_ k (nth a ia ^^^ nth b k)
          rw [List.set_set, ← hpa, ← hpb, rawTo_set, hpa, hpb] at hI4
          have hb4 := (hbel.setCell (p := ⟨M, k, none⟩) (Nat.le_refl _) (.int .i64 (nth a ia : Nat))).setCell (p := ⟨M, k, none⟩) (Nat.le_refl _) (.int .i64 (nth a ia ^^^ nth b k : Nat))
          have HI4 := Lib.hid hI4
          have HB4 := Lib.hid hb4
          clear hI2 hI3 hI4 hb4 hrl hpa hpb hia hib cA cB HA HB
          go_wp2_with fail
          go_region
          go_wp2_with fail
          go_region
          go_wp2_with fail
          go_roundw
          case rel => exact ⟨k + 1, by omega, by go_num, HI4.out.mod (Mod.drewN (Mod.refl (S := fun _ => False) _) 2) (fun h => h), below_drewN HB4.out 2⟩
          case measure => simp [intOf]; omega
        · have hneg : (a.length : Int) - (b.length : Nat) + (k : Nat) < 0 := by omega
          obtain ⟨bB, oB, rfl, lB, cB⟩ := HB.out (by omega)
          rw [← HMM.out] at lB
          have hp1 : pat b b.length k = nth b k := by unfold pat; rw [if_pos (by omega), show b.length + k - b.length = k by omega]
          have hp0 : pat a b.length k = 0 := by unfold pat; rw [if_neg (by omega)]
          have hv := HBV.out k
          have cB := cB k (by omega)
          dsimp only at cB
          have c2 : wr.cell? ⟨bB, oB + k, none⟩ = some (.int .i64 (nth b k : Nat)) := by rw [← cB]; exact hbel.cell lB
          have x0 : bits .xor .i64 0 (nth b k : Nat) = (nth b k : Nat) := by have := i64_xor 0 (nth b k) (by omega) (by omega); rwa [Nat.zero_xor] at this
          have hI3 := hI2.set_ k (nth b k)
          rw [show nth b k = pat a b.length k ^^^ pat b b.length k by rw [hp0, hp1]; simp, rawTo_set, hp0, hp1] at hI3
          have hb4 := hbel.setCell (p := ⟨M, k, none⟩) (Nat.le_refl _) (.int .i64 (nth b k : Nat))
          simp only [Nat.zero_xor] at hI3
          have HI4 := Lib.hid hI3
          have HB4 := Lib.hid hb4
          clear hI2 hI3 hb4 hrl hp0 hp1 cB HA HB
          go_wp2_with fail
          go_region
          go_wp2_with fail
          go_roundw
          case rel => exact ⟨k + 1, by omega, by go_num, HI4.out.mod (Mod.drewN (Mod.refl (S := fun _ => False) _) 1) (fun h => h), below_drewN HB4.out 1⟩
          case measure => simp [intOf]; omega
      · obtain rfl : k = b.length := by omega
        have hne : rawTo a b b.length b.length ≠ [] := by intro e; have := congrArg List.length e; rw [rawTo_length, List.length_nil] at this; omega
        have hrl := rawTo_length a b b.length b.length
        have HT := rsTidy (rawTo a b b.length b.length) hne (by omega) (some ⟨M, 0, none⟩) b.length (by omega) wr hI2.rd
        rw [hrl, ← HP.out] at HT
        have HT := Lib.hid HT
        have hsz : M ≤ wr.heap.size := Nat.le_of_lt hI2.lt
        have HS := Lib.hid hI2
        clear hI2 hne hrl
        go_wp2_with fail
        refine HT.out.mono ?_
        rintro e w' ⟨v, rfl, hown, hb⟩
        go_wp2_with fail
        go_ret
        rw [HMM.out] at hbel hsz
        exact ⟨_, rfl, own_mono hown hsz, hbel.trans (hb.mono hsz)⟩
  · have hmk := fun W => run_make1 (P := Tryz.prog) 24 3 (.int .i64 0) 8 Tryz.underlying24 Tryz.infoInt rfl (by decide) a.length (by omega) .i64 .i64 a.length rfl W
    have hnpos : 0 < a.length := by omega
    have hpl : plus a b = tidy (rawTo a b a.length a.length) := by unfold plus; rw [show max a.length b.length = a.length by omega]
    have HP := Lib.hid hpl
    clear hpl
    go_enter Tryz.func79, Tryz.ntmps79
    go_wp2_with fail
    have hI := IA.zeros w 3 a.length
    rw [← rawTo_zero a b] at hI
    have hB0 : Below w.heap.size w (w.alloc (.cells (zeros a.length (.int .i64 0)) 3)) := (Below.refl _ _).alloc (Nat.le_refl _) _
    obtain ⟨w0, hw0⟩ : ∃ w0, w0 = w.alloc (.cells (zeros a.length (.int .i64 0)) 3) := ⟨_, rfl⟩
    rw [← hw0] at hI hB0 ⊢
    obtain ⟨M, hM⟩ : ∃ M, M = w.heap.size := ⟨_, rfl⟩
    rw [← hM] at hI hB0 ⊢
    have HMM := Lib.hid hM
    clear hw0 hmk hM
    go_loopw [7] (fun i wr => ∃ k : Nat, k ≤ a.length ∧ i = .int .i64 k ∧ IA wr 3 M (rawTo a b a.length k) ∧ Below M w wr) (fun i _ => a.length - (intOf i).toNat)
    case atStart => exact ⟨0, by omega, rfl, hI, hB0⟩
    case round =>
      obtain ⟨k, hk, rfl, hI2, hbel⟩ := hrel
      clear hI hB0
      by_cases hlt : k < a.length
      · have hrl := rawTo_length a b a.length k
        have hz := hI2.cell (j := k) (by omega)
        rw [rawTo_nth _ _ _ _ _ hlt, if_neg (by omega)] at hz
        have hfz := hI2.free k
        by_cases has : a.length ≤ b.length + k
        · obtain ⟨ia, hia⟩ : ∃ ia, ia = a.length + k - a.length := ⟨_, rfl⟩
          obtain ⟨ib, hib⟩ : ∃ ib, ib = b.length + k - a.length := ⟨_, rfl⟩
          have eA : (a.length : Int) - (a.length : Nat) + (k : Nat) = (ia : Nat) := by omega
          have eB : (b.length : Int) - (a.length : Nat) + (k : Nat) = (ib : Nat) := by omega
          obtain rfl : k = ia := by omega
          clear eA
          obtain ⟨bA, oA, rfl, lA, cA⟩ := HA.out (by omega)
          obtain ⟨bB, oB, rfl, lB, cB⟩ := HB.out (by omega)
          rw [← HMM.out] at lA lB
          have hpa : pat a a.length k = nth a k := by unfold pat; rw [if_pos (by omega), ← hia]
          have hpb : pat b a.length k = nth b ib := by unfold pat; rw [if_pos (by omega), ← hib]
          have hAv := HAV.out k
          have hBv := HBV.out ib
          have cA := cA k (by omega)
          have cB := cB ib (by omega)
          dsimp only at cA cB
          have cA2 : wr.cell? ⟨bA, oA + k, none⟩ = some (.int .i64 (nth a k : Nat)) := by rw [← cA]; exact hbel.cell lA
          have x0 : bits .xor .i64 0 (nth a k : Nat) = (nth a k : Nat) := by have := i64_xor 0 (nth a k) (by omega) (by omega); rwa [Nat.zero_xor] at this
          have x1 := i64_xor (nth a k) (nth b ib) (by omega) (by omega)
          have hI3 := hI2.set_ k (nth a k)
          have hz3 := hI3.cell (j := k) (by simp; omega)
          have hf3 := hI3.free k
          rw [nth_set (by omega), if_pos rfl] at hz3
          have cB3 : (wr.setCell ⟨M, k, none⟩ (.int .i64 (nth a k : Nat))).cell? ⟨bB, oB + ib, none⟩ = some (.int .i64 (nth b ib : Nat)) := by rw [← cB]; exact (hbel.setCell (p := ⟨M, k, none⟩) (Nat.le_refl _) _).cell lB
          have hI4 := hI3.set_ k (nth a k ^^^ nth b ib)
          rw [List.set_set, ← hpa, ← hpb, rawTo_set, hpa, hpb] at hI4
          have hb4 := (hbel.setCell (p := ⟨M, k, none⟩) (Nat.le_refl _) (.int .i64 (nth a k : Nat))).setCell (p := ⟨M, k, none⟩) (Nat.le_refl _) (.int .i64 (nth a k ^^^ nth b ib : Nat))
          have HI4 := Lib.hid hI4
          have HB4 := Lib.hid hb4
          clear hI2 hI3 hI4 hb4 hrl hpa hpb hia hib cA cB HA HB
          go_wp2_with fail
          go_region
          go_wp2_with fail
          go_region
          go_wp2_with fail
          go_roundw
          case rel => exact ⟨k + 1, by omega, by go_num, HI4.out.mod (Mod.drewN (Mod.refl (S := fun _ => False) _) 2) (fun h => h), below_drewN HB4.out 2⟩
          case measure => simp [intOf]; omega
        · have hneg : (b.length : Int) - (a.length : Nat) + (k : Nat) < 0 := by omega
          obtain ⟨bA, oA, rfl, lA, cA⟩ := HA.out (by omega)
          rw [← HMM.out] at lA
          have hp1 : pat a a.length k = nth a k := by unfold pat; rw [if_pos (by omega), show a.length + k - a.length = k by omega]
          have hp0 : pat b a.length k = 0 := by unfold pat; rw [if_neg (by omega)]
          have hv := HAV.out k
          have cA := cA k (by omega)
          dsimp only at cA
          have c2 : wr.cell? ⟨bA, oA + k, none⟩ = some (.int .i64 (nth a k : Nat)) := by rw [← cA]; exact hbel.cell lA
          have x0 : bits .xor .i64 0 (nth a k : Nat) = (nth a k : Nat) := by have := i64_xor 0 (nth a k) (by omega) (by omega); rwa [Nat.zero_xor] at this
          have hI3 := hI2.set_ k (nth a k)
          rw [show nth a k = pat a a.length k ^^^ pat b a.length k by rw [hp0, hp1]; simp, rawTo_set, hp0, hp1] at hI3
          have hb4 := hbel.setCell (p := ⟨M, k, none⟩) (Nat.le_refl _) (.int .i64 (nth a k : Nat))
          simp only [Nat.xor_zero] at hI3
          have HI4 := Lib.hid hI3
          have HB4 := Lib.hid hb4
          clear hI2 hI3 hb4 hrl hp0 hp1 cA HA HB
          go_wp2_with fail
          go_region
          go_wp2_with fail
          go_roundw
          case rel => exact ⟨k + 1, by omega, by go_num, HI4.out.mod (Mod.drewN (Mod.refl (S := fun _ => False) _) 1) (fun h => h), below_drewN HB4.out 1⟩
          case measure => simp [intOf]; omega
      · obtain rfl : k = a.length := by omega
        have hne : rawTo a b a.length a.length ≠ [] := by intro e; have := congrArg List.length e; rw [rawTo_length, List.length_nil] at this; omega
        have hrl := rawTo_length a b a.length a.length
        have HT := rsTidy (rawTo a b a.length a.length) hne (by omega) (some ⟨M, 0, none⟩) a.length (by omega) wr hI2.rd
        rw [hrl, ← HP.out] at HT
        have HT := Lib.hid HT
        have hsz : M ≤ wr.heap.size := Nat.le_of_lt hI2.lt
        have HS := Lib.hid hI2
        clear hI2 hne hrl
        go_wp2_with fail
        refine HT.out.mono ?_
        rintro e w' ⟨v, rfl, hown, hb⟩
        go_wp2_with fail
        go_ret
        rw [HMM.out] at hbel hsz
        exact ⟨_, rfl, own_mono hown hsz, hbel.trans (hb.mono hsz)⟩
--TAIL
end Go.Proofs.YtiielblnmfeapaaGreatDoor
namespace Go.Proofs.YtiielblnmfeapaaGreatDoor
open Go.RowKit Go.Qz Go.Qz.RS
set_option linter.unusedVariables false

set_option maxRecDepth 100000 in
set_option maxHeartbeats 800000 in
theorem gfAdd (x y z : Nat) (hz : x ^^^ y = z) (hx : x < 1000000) (hy : y < 1000000) (w : World) :
    Calls Tryz.prog 97 #[.int .i64 x, .int .i64 y] w fun e w' => e = .returned (.int .i64 z) ∧ w = w' := by
  have h := i64_xor x y (by omega) (by omega)
  rw [hz] at h
  clear hz
  go_enter Tryz.func97, Tryz.ntmps97
  go_wp2_with fail
  go_ret
  exact ⟨rfl, rfl⟩

set_option maxRecDepth 100000 in
set_option maxHeartbeats 800000 in
theorem polyIsZero (Q : Nat → Prop) (p f : Nat) (cs : List Nat) (z : Bool) (hz : (((nth cs 0 : Nat) : Int) == 0) = z) (w : World) (h : PolyQ w Q p f cs) (hn : cs.length < 1000000) :
    Calls Tryz.prog 110 #[.pointer (some ⟨p, 0, none⟩)] w fun e w' => e = .returned (.bool z) ∧ w = w' := by
  obtain ⟨⟨cb, off, cap, h1, h2, h3, h4, h5⟩, hp, hne⟩ := h
  have hpos : 0 < cs.length := List.length_pos_iff.2 hne
  have hc : w.cell? ⟨p, 1, none⟩ = some (.slice (some ⟨cb, off, none⟩) cs.length cap) := by rw [cell_of_row w p 1 _ _ _ h1]; rfl
  have h0 := h5 0 hpos
  rw [Nat.add_zero] at h0
  clear h5 h1
  go_enter Tryz.func110, Tryz.ntmps110
  go_wp2_with fail
  go_ret
  exact ⟨rfl, rfl⟩

theorem add_plain (b o j : Nat) : Addr.add ⟨b, o, none⟩ j = ⟨b, o + j, none⟩ := by
  unfold Addr.add
  split
  · rename_i h; subst h; rfl
  · rfl
theorem rawTo_copy (S L : List Nat) (hS : S.length ≤ L.length) : rawTo S L L.length (L.length - S.length) = L.take (L.length - S.length) ++ (List.replicate L.length 0).drop (L.length - S.length) := by
  apply List.ext_getElem?
  intro i
  by_cases hi : i < L.length
  · rw [rawTo, List.getElem?_map, List.getElem?_range hi, Option.map_some]
    by_cases hk : i < L.length - S.length
    · rw [if_pos hk, List.getElem?_append_left (by simp; omega), List.getElem?_take, if_pos hk, List.getElem?_eq_getElem hi]
      have h1 : pat S L.length i = 0 := by unfold pat; rw [if_neg (by omega)]
      have h2 : pat L L.length i = L[i] := by unfold pat; rw [if_pos (by omega), show L.length + i - L.length = i by omega, nth_eq hi]
      rw [h1, h2, Nat.zero_xor]
    · rw [if_neg hk, List.getElem?_append_right (by simp; omega), List.length_take, Nat.min_eq_left (by omega), List.getElem?_drop, List.getElem?_replicate, if_pos (by omega)]
  · rw [List.getElem?_eq_none (by simpa [rawTo] using hi), List.getElem?_eq_none (by simp; omega)]
theorem splice_raw (S L : List Nat) (hS : S.length ≤ L.length) (dn : Nat) (hd : dn = L.length - S.length) (cs : List Value) (hcs : cs = (L.take dn).map fun x : Nat => Value.int .i64 (x : Int)) :
    splice (List.replicate L.length (Value.int .i64 0)) 0 cs = (rawTo S L L.length dn).map fun x : Nat => Value.int .i64 (x : Int) := by
  subst hd hcs
  rw [rawTo_copy S L hS]
  simp [splice]

set_option maxRecDepth 100000 in
theorem ptr_neq (f : Nat) (W : World) : (binOp .neq 112 (.pointer (some ⟨f, 0, none⟩)) (.pointer (some ⟨f, 0, none⟩))).run Tryz.prog W = .ok (.bool false) W := by
  have hi : (Tryz.prog.info? 173).isSome = true := by kernel_rfl
  obtain ⟨j, hj⟩ := Option.isSome_iff_exists.1 hi
  exact Go.Lib.run_neq_ptr_same W (te := 173) _ (by kernel_rfl) hj

set_option maxRecDepth 100000 in
set_option maxHeartbeats 3200000 in
theorem polyAdd (Q : Nat → Prop) (p q f : Nat) (a b : List Nat) (ha : a.length < 100000) (hb : b.length < 100000) (hav : ∀ j, nth a j < 65536) (hbv : ∀ j, nth b j < 65536) (hta : tidy a = a) (htb : tidy b = b) (w : World) (hQ : ∀ k, w.heap.size ≤ k → Q k)
    (hp : PolyQ w Q p f a) (hq : PolyQ w Q q f b) :
    Calls Tryz.prog 112 #[.pointer (some ⟨p, 0, none⟩), .pointer (some ⟨q, 0, none⟩)] w fun e w' => ∃ r, e = .returned (.tuple #[.pointer (some ⟨r, 0, none⟩), .nilIface]) ∧ PolyQ w' Q r f (plus a b) ∧ Below w.heap.size w w' := by
  have HPP := Lib.hid hp
  have HQQ := Lib.hid hq
  obtain ⟨⟨cb, off, cap, h1, h2, h3, h4, h5⟩, hp1, hpne⟩ := hp
  obtain ⟨⟨cb', off', cap', h1', h2', h3', h4', h5'⟩, hq1, hqne⟩ := hq
  have c0 : w.cell? ⟨p, 0, none⟩ = some (.pointer (some ⟨f, 0, none⟩)) := by rw [cell_of_row w p 0 _ _ _ h1]; rfl
  have c1 : w.cell? ⟨p, 1, none⟩ = some (.slice (some ⟨cb, off, none⟩) a.length cap) := by rw [cell_of_row w p 1 _ _ _ h1]; rfl
  have d0 : w.cell? ⟨q, 0, none⟩ = some (.pointer (some ⟨f, 0, none⟩)) := by rw [cell_of_row w q 0 _ _ _ h1']; rfl
  have d1 : w.cell? ⟨q, 1, none⟩ = some (.slice (some ⟨cb', off', none⟩) b.length cap') := by rw [cell_of_row w q 1 _ _ _ h1']; rfl
  have hap := List.length_pos_iff.2 hpne
  have hbp := List.length_pos_iff.2 hqne
  have H5 := Lib.hid h5
  have H5' := Lib.hid h5'
  have HAV := Lib.hid hav
  have HBV := Lib.hid hbv
  have HQ := Lib.hid hQ
  have HTA := Lib.hid hta
  have HTB := Lib.hid htb
  have hneq := fun W => ptr_neq f W
  obtain ⟨za, hza⟩ : ∃ za, (((nth a 0 : Nat) : Int) == 0) = za := ⟨_, rfl⟩
  obtain ⟨zb, hzb⟩ : ∃ zb, (((nth b 0 : Nat) : Int) == 0) = zb := ⟨_, rfl⟩
  have HZ := Lib.hid (fun W hW => polyIsZero Q p f a za hza W hW (by omega))
  have HZ' := Lib.hid (fun W hW => polyIsZero Q q f b zb hzb W hW (by omega))
  have HZA := Lib.hid hza
  have HZB := Lib.hid hzb
  clear h1 h1' h5 h5' hav hbv hQ hta htb hza hzb
  go_enter Tryz.func112, Tryz.ntmps112
  go_wp2_with fail
  go_quiet (fail)
  go_wp2_with fail
  refine (HZ.out _ (HPP.out.below (below_drewN (Below.refl _ _) _))).mono ?_
  rintro e w1 ⟨rfl, rfl⟩
  cases za with
  | true =>
    have ha0 : a = [0] := by
      have h0 : nth a 0 = 0 := by have := HZA.out; simpa using this
      rw [← HTA.out] at h0 ⊢
      exact tidy_head a hpne h0
    have hpl : plus a b = b := by rw [ha0]; exact plus_zero b hqne HTB.out
    have HPL := Lib.hid hpl
    go_wp2_with fail
    go_ret2
    exact ⟨_, rfl, by rw [HPL.out]; exact HQQ.out.below (below_drewN (Below.refl _ _) _), below_drewN (Below.refl _ _) _⟩
  | false =>
    go_wp2_with fail
    refine (HZ'.out _ (HQQ.out.below (below_drewN (Below.refl _ _) _))).mono ?_
    rintro e w1 ⟨rfl, rfl⟩
    cases zb with
    | true =>
      have hb0 : b = [0] := by
        have h0 : nth b 0 = 0 := by have := HZB.out; simpa using this
        rw [← HTB.out] at h0 ⊢
        exact tidy_head b hqne h0
      have hpl : plus a b = a := by rw [hb0, plus_comm]; exact plus_zero a hpne HTA.out
      have HPL := Lib.hid hpl
      go_wp2_with fail
      go_ret2
      exact ⟨_, rfl, by rw [HPL.out]; exact HPP.out.below (below_drewN (Below.refl _ _) _), below_drewN (Below.refl _ _) _⟩
    | false =>
      by_cases hlen : b.length < a.length
      · have hI := IA.zeros (w.drewN nq) 3 a.length
        have hb0 : Below w.heap.size w ((w.drewN nq).alloc (.cells (zeros a.length (.int .i64 0)) 3)) := (below_drewN (Below.refl _ _) _).alloc (Nat.le_refl _) _
        have hmk := fun W => run_make1 (P := Tryz.prog) 24 3 (.int .i64 0) 8 Tryz.underlying24 Tryz.infoInt rfl (by decide) a.length (by omega) .i64 .i64 a.length rfl W
        obtain ⟨dn, hdn⟩ : ∃ dn, dn = a.length - b.length := ⟨_, rfl⟩
        have edn : (a.length : Int) - (b.length : Int) = (dn : Int) := by omega
        have hdl : dn ≤ a.length := by omega
        have hcs : ∀ (j : Nat) (v : Value), ((a.take dn).map fun x : Nat => Value.int .i64 (x : Int))[j]? = some v → ((w.drewN nq).alloc (.cells (zeros a.length (.int .i64 0)) 3)).cell? (Addr.add ⟨cb, off, none⟩ j) = some v := by
          intro j v hv
          rw [List.getElem?_map, List.getElem?_take] at hv
          by_cases hj : j < dn
          · rw [if_pos hj, List.getElem?_eq_getElem (by omega)] at hv
            have h6 := H5.out j (by omega)
            rw [nth_eq (by omega)] at h6
            rw [← hv]
            rw [add_plain]
            exact (hb0.cell (p := ⟨cb, off + j, none⟩) h3).trans h6
          · rw [if_neg hj] at hv; cases hv
        have hcl : ((a.take dn).map fun x : Nat => Value.int .i64 (x : Int)).length = dn := by simp; omega
        have hone : ∀ v ∈ ((a.take dn).map fun x : Nat => Value.int .i64 (x : Int)), v.oneCell' = true := by intro v hv; obtain ⟨x, _, rfl⟩ := List.mem_map.1 hv; rfl
        obtain ⟨cs, hcsd⟩ : ∃ cs, cs = ((a.take dn).map fun x : Nat => Value.int .i64 (x : Int)) := ⟨_, rfl⟩
        rw [← hcsd] at hcl hone hcs
        have HCSD := Lib.hid hcsd
        clear hcsd
        have HCS := Lib.hid hcs
        have HONE := Lib.hid hone
        have HCL := Lib.hid hcl
        clear hone hcl
        have HDN := Lib.hid hdn
        clear hdn hcs
        go_wp2_with (refine wpList_copy_splice rfl _ _ 24 24 rfl 3 Tryz.underlying24 (by kernel_rfl) _ _ _ _ _ _ rfl rfl w.heap.size 0 _ 3 hI cs (by rw [HCL.out]; exact (Nat.min_eq_left hdl).symm) (fun _ => ⟨rfl, _, rfl, HCS.out⟩) (by rw [HCL.out]; simp; omega) HONE.out w.heap.size w hb0 (Nat.le_refl _) ?_)
        intro w1 HG hb1
        have hI1 : IA w1 3 w.heap.size (rawTo b a a.length dn) := by
          have := HG.out
          rw [splice_raw b a (by omega) dn HDN.out cs HCSD.out] at this
          exact this
        have hdl1 : dn ≤ a.length := hdl
        clear HG hb0 hmk hI HCS HONE HCL HCSD
        obtain ⟨M, hM⟩ : ∃ M, M = w.heap.size := ⟨_, rfl⟩
        rw [← hM] at hI1 hb1 h3' h3 ⊢
        have HMM := Lib.hid hM
        clear hM
        go_wp2_with fail
        go_loopw [10] (fun i wr => ∃ k : Nat, dn ≤ k ∧ k ≤ a.length ∧ i = .int .i64 k ∧ IA wr 3 M (rawTo b a a.length k) ∧ Below M w wr) (fun i _ => a.length - (intOf i).toNat)
        case atStart => exact ⟨dn, by omega, by omega, rfl, hI1, hb1⟩
        case round =>
          obtain ⟨k, hk0, hk, rfl, hI2, hbel⟩ := hrel
          clear hI1 hb1
          by_cases hlt : k < a.length
          · have hdd := HDN.out
            obtain ⟨ik, hik⟩ : ∃ ik, ik = k - dn := ⟨_, rfl⟩
            have eik : (k : Int) - (dn : Int) = (ik : Int) := by omega
            have hik2 : ik < b.length := by omega
            have hik0 : (0 : Int) ≤ (ik : Int) := by omega
            have hik1 : (ik : Int) < (b.length : Int) := by omega
            have hk1 : (k : Int) < (a.length : Int) := by omega
            have hwr : IntKind.i64.wrap (ik : Int) = (ik : Int) := by rw [IntKind.wrap_i64]; omega
            have hrl := rawTo_length b a a.length k
            have hz := hI2.cell (j := k) (by omega)
            rw [rawTo_nth _ _ _ _ _ hlt, if_neg (by omega)] at hz
            have hfz := hI2.free k
            have cS : wr.cell? ⟨cb', off' + ik, none⟩ = some (.int .i64 (nth b ik : Nat)) := (hbel.cell (p := ⟨cb', off' + ik, none⟩) h3').trans (H5'.out ik (by omega))
            have cL : wr.cell? ⟨cb, off + k, none⟩ = some (.int .i64 (nth a k : Nat)) := (hbel.cell (p := ⟨cb, off + k, none⟩) h3).trans (H5.out k hlt)
            have hpa : pat b a.length k = nth b ik := by unfold pat; rw [if_pos (by omega), hik, hdd]; congr 1; omega
            have hpb : pat a a.length k = nth a k := by unfold pat; rw [if_pos (by omega), show a.length + k - a.length = k by omega]
            have hI3 := hI2.set_ k (nth b ik ^^^ nth a k)
            rw [← hpa, ← hpb, rawTo_set, hpa, hpb] at hI3
            have hb3 := hbel.setCell (p := ⟨M, k, none⟩) (Nat.le_refl _) (.int .i64 (nth b ik ^^^ nth a k : Nat))
            have hAv := HBV.out ik
            have hBv := HAV.out k
            obtain ⟨z, hzz⟩ : ∃ z, nth b ik ^^^ nth a k = z := ⟨_, rfl⟩
            rw [hzz] at hI3 hb3
            have hs2 : (wr.setCell ⟨M, k, none⟩ (.int .i64 (z : Nat))).drew.cell? ⟨cb', off' + ik, none⟩ = some (.int .i64 (nth b ik : Nat)) ∧ (wr.setCell ⟨M, k, none⟩ (.int .i64 (z : Nat))).drew.cell? ⟨cb, off + k, none⟩ = some (.int .i64 (nth a k : Nat)) :=
              ⟨(hb3.drew.cell (p := ⟨cb', off' + ik, none⟩) h3').trans (H5'.out ik (by omega)), (hb3.drew.cell (p := ⟨cb, off + k, none⟩) h3).trans (H5.out k hlt)⟩
            have HADD := Lib.hid (fun W => gfAdd (nth b ik) (nth a k) z hzz (by omega) (by omega) W)
            have HI3 := Lib.hid hI3
            have HB3 := Lib.hid hb3
            clear hI2 hI3 hb3 hrl hpa hpb hzz hik hdd
            go_wp2_with fail
            go_region_held3 (fun w' => w'.cell? ⟨cb', off' + ik, none⟩ = some (.int .i64 (nth b ik : Nat)) ∧ w'.cell? ⟨cb, off + k, none⟩ = some (.int .i64 (nth a k : Nat))) (first | exact hs2 | go_keep) (first | (go_at_call 97; refine (HADD.out _).mono ?_; rintro e w' ⟨rfl, rfl⟩))
            go_wp2_with fail
            go_roundw
            case rel => exact ⟨k + 1, by omega, by omega, by go_num, HI3.out.mod (Mod.drew (Mod.refl (S := fun _ => False) _)) (fun h => h), HB3.out.drew⟩
            case measure => simp [intOf]; omega
          · obtain rfl : k = a.length := by omega
            have hpl : plus a b = tidy (rawTo b a a.length a.length) := by unfold plus; rw [show max a.length b.length = a.length by omega, rawTo_comm]
            have hrl := rawTo_length b a a.length a.length
            have hne : rawTo b a a.length a.length ≠ [] := by intro e; have := congrArg List.length e; rw [rawTo_length, List.length_nil] at this; omega
            have c0' : wr.cell? ⟨p, 0, none⟩ = some (.pointer (some ⟨f, 0, none⟩)) := (hbel.cell (p := ⟨p, 0, none⟩) (by rw [HMM.out]; exact HPP.out.lt)).trans c0
            have hsl : SlQ wr Q (some ⟨M, 0, none⟩) (rawTo b a a.length a.length) a.length := ⟨by omega, fun _ => ⟨M, 0, rfl, HQ.out M (by rw [HMM.out]; exact Nat.le_refl _), hI2.lt, fun j hj => by rw [Nat.zero_add]; exact hI2.cell hj⟩⟩
            have hsz : M ≤ wr.heap.size := Nat.le_of_lt hI2.lt
            have HT := poly_new Q f (some ⟨M, 0, none⟩) (rawTo b a a.length a.length) a.length wr (fun k hk => HQ.out k (by rw [HMM.out] at hsz; omega)) hne (by omega) hsl
            rw [hrl, ← hpl] at HT
            have HT := Lib.hid HT
            clear hI2 hpl hrl hne hsl
            go_wp2_with fail
            refine HT.out.mono ?_
            rintro e w' ⟨r, rfl, hr, hb, _⟩
            go_wp2_with fail
            go_ret2
            rw [HMM.out] at hbel hsz
            exact ⟨r, rfl, hr, hbel.trans (hb.mono hsz)⟩
      · have hI := IA.zeros (w.drewN nq) 3 b.length
        have hb0 : Below w.heap.size w ((w.drewN nq).alloc (.cells (zeros b.length (.int .i64 0)) 3)) := (below_drewN (Below.refl _ _) _).alloc (Nat.le_refl _) _
        have hmk := fun W => run_make1 (P := Tryz.prog) 24 3 (.int .i64 0) 8 Tryz.underlying24 Tryz.infoInt rfl (by decide) b.length (by omega) .i64 .i64 b.length rfl W
        obtain ⟨dn, hdn⟩ : ∃ dn, dn = b.length - a.length := ⟨_, rfl⟩
        have edn : (b.length : Int) - (a.length : Int) = (dn : Int) := by omega
        have hdl : dn ≤ b.length := by omega
        have hcs : ∀ (j : Nat) (v : Value), ((b.take dn).map fun x : Nat => Value.int .i64 (x : Int))[j]? = some v → ((w.drewN nq).alloc (.cells (zeros b.length (.int .i64 0)) 3)).cell? (Addr.add ⟨cb', off', none⟩ j) = some v := by
          intro j v hv
          rw [List.getElem?_map, List.getElem?_take] at hv
          by_cases hj : j < dn
          · rw [if_pos hj, List.getElem?_eq_getElem (by omega)] at hv
            have h6 := H5'.out j (by omega)
            rw [nth_eq (by omega)] at h6
            rw [← hv]
            rw [add_plain]
            exact (hb0.cell (p := ⟨cb', off' + j, none⟩) h3').trans h6
          · rw [if_neg hj] at hv; cases hv
        have hcl : ((b.take dn).map fun x : Nat => Value.int .i64 (x : Int)).length = dn := by simp; omega
        have hone : ∀ v ∈ ((b.take dn).map fun x : Nat => Value.int .i64 (x : Int)), v.oneCell' = true := by intro v hv; obtain ⟨x, _, rfl⟩ := List.mem_map.1 hv; rfl
        obtain ⟨cs, hcsd⟩ : ∃ cs, cs = ((b.take dn).map fun x : Nat => Value.int .i64 (x : Int)) := ⟨_, rfl⟩
        rw [← hcsd] at hcl hone hcs
        have HCSD := Lib.hid hcsd
        clear hcsd
        have HCS := Lib.hid hcs
        have HONE := Lib.hid hone
        have HCL := Lib.hid hcl
        clear hone hcl
        have HDN := Lib.hid hdn
        clear hdn hcs
        go_wp2_with (refine wpList_copy_splice rfl _ _ 24 24 rfl 3 Tryz.underlying24 (by kernel_rfl) _ _ _ _ _ _ rfl rfl w.heap.size 0 _ 3 hI cs (by rw [HCL.out]; exact (Nat.min_eq_left hdl).symm) (fun _ => ⟨rfl, _, rfl, HCS.out⟩) (by rw [HCL.out]; simp; omega) HONE.out w.heap.size w hb0 (Nat.le_refl _) ?_)
        intro w1 HG hb1
        have hI1 : IA w1 3 w.heap.size (rawTo a b b.length dn) := by
          have := HG.out
          rw [splice_raw a b (by omega) dn HDN.out cs HCSD.out] at this
          exact this
        have hdl1 : dn ≤ b.length := hdl
        clear HG hb0 hmk hI HCS HONE HCL HCSD
        obtain ⟨M, hM⟩ : ∃ M, M = w.heap.size := ⟨_, rfl⟩
        rw [← hM] at hI1 hb1 h3 h3' ⊢
        have HMM := Lib.hid hM
        clear hM
        go_wp2_with fail
        go_loopw [10] (fun i wr => ∃ k : Nat, dn ≤ k ∧ k ≤ b.length ∧ i = .int .i64 k ∧ IA wr 3 M (rawTo a b b.length k) ∧ Below M w wr) (fun i _ => b.length - (intOf i).toNat)
        case atStart => exact ⟨dn, by omega, by omega, rfl, hI1, hb1⟩
        case round =>
          obtain ⟨k, hk0, hk, rfl, hI2, hbel⟩ := hrel
          clear hI1 hb1
          by_cases hlt : k < b.length
          · have hdd := HDN.out
            obtain ⟨ik, hik⟩ : ∃ ik, ik = k - dn := ⟨_, rfl⟩
            have eik : (k : Int) - (dn : Int) = (ik : Int) := by omega
            have hik2 : ik < a.length := by omega
            have hik0 : (0 : Int) ≤ (ik : Int) := by omega
            have hik1 : (ik : Int) < (a.length : Int) := by omega
            have hk1 : (k : Int) < (b.length : Int) := by omega
            have hwr : IntKind.i64.wrap (ik : Int) = (ik : Int) := by rw [IntKind.wrap_i64]; omega
            have hrl := rawTo_length a b b.length k
            have hz := hI2.cell (j := k) (by omega)
            rw [rawTo_nth _ _ _ _ _ hlt, if_neg (by omega)] at hz
            have hfz := hI2.free k
            have cS : wr.cell? ⟨cb, off + ik, none⟩ = some (.int .i64 (nth a ik : Nat)) := (hbel.cell (p := ⟨cb, off + ik, none⟩) h3).trans (H5.out ik (by omega))
            have cL : wr.cell? ⟨cb', off' + k, none⟩ = some (.int .i64 (nth b k : Nat)) := (hbel.cell (p := ⟨cb', off' + k, none⟩) h3').trans (H5'.out k hlt)
            have hpa : pat a b.length k = nth a ik := by unfold pat; rw [if_pos (by omega), hik, hdd]; congr 1; omega
            have hpb : pat b b.length k = nth b k := by unfold pat; rw [if_pos (by omega), show b.length + k - b.length = k by omega]
            have hI3 := hI2.set_ k (nth a ik ^^^ nth b k)
            rw [← hpa, ← hpb, rawTo_set, hpa, hpb] at hI3
            have hb3 := hbel.setCell (p := ⟨M, k, none⟩) (Nat.le_refl _) (.int .i64 (nth a ik ^^^ nth b k : Nat))
            have hAv := HAV.out ik
            have hBv := HBV.out k
            obtain ⟨z, hzz⟩ : ∃ z, nth a ik ^^^ nth b k = z := ⟨_, rfl⟩
            rw [hzz] at hI3 hb3
            have hs2 : (wr.setCell ⟨M, k, none⟩ (.int .i64 (z : Nat))).drew.cell? ⟨cb, off + ik, none⟩ = some (.int .i64 (nth a ik : Nat)) ∧ (wr.setCell ⟨M, k, none⟩ (.int .i64 (z : Nat))).drew.cell? ⟨cb', off' + k, none⟩ = some (.int .i64 (nth b k : Nat)) :=
              ⟨(hb3.drew.cell (p := ⟨cb, off + ik, none⟩) h3).trans (H5.out ik (by omega)), (hb3.drew.cell (p := ⟨cb', off' + k, none⟩) h3').trans (H5'.out k hlt)⟩
            have HADD := Lib.hid (fun W => gfAdd (nth a ik) (nth b k) z hzz (by omega) (by omega) W)
            have HI3 := Lib.hid hI3
            have HB3 := Lib.hid hb3
            clear hI2 hI3 hb3 hrl hpa hpb hzz hik hdd
            go_wp2_with fail
            go_region_held3 (fun w' => w'.cell? ⟨cb, off + ik, none⟩ = some (.int .i64 (nth a ik : Nat)) ∧ w'.cell? ⟨cb', off' + k, none⟩ = some (.int .i64 (nth b k : Nat))) (first | exact hs2 | go_keep) (first | (go_at_call 97; refine (HADD.out _).mono ?_; rintro e w' ⟨rfl, rfl⟩))
            go_wp2_with fail
            go_roundw
            case rel => exact ⟨k + 1, by omega, by omega, by go_num, HI3.out.mod (Mod.drew (Mod.refl (S := fun _ => False) _)) (fun h => h), HB3.out.drew⟩
            case measure => simp [intOf]; omega
          · obtain rfl : k = b.length := by omega
            have hpl : plus a b = tidy (rawTo a b b.length b.length) := by unfold plus; rw [show max a.length b.length = b.length by omega]
            have hrl := rawTo_length a b b.length b.length
            have hne : rawTo a b b.length b.length ≠ [] := by intro e; have := congrArg List.length e; rw [rawTo_length, List.length_nil] at this; omega
            have c0' : wr.cell? ⟨p, 0, none⟩ = some (.pointer (some ⟨f, 0, none⟩)) := (hbel.cell (p := ⟨p, 0, none⟩) (by rw [HMM.out]; exact HPP.out.lt)).trans c0
            have hsl : SlQ wr Q (some ⟨M, 0, none⟩) (rawTo a b b.length b.length) b.length := ⟨by omega, fun _ => ⟨M, 0, rfl, HQ.out M (by rw [HMM.out]; exact Nat.le_refl _), hI2.lt, fun j hj => by rw [Nat.zero_add]; exact hI2.cell hj⟩⟩
            have hsz : M ≤ wr.heap.size := Nat.le_of_lt hI2.lt
            have HT := poly_new Q f (some ⟨M, 0, none⟩) (rawTo a b b.length b.length) b.length wr (fun k hk => HQ.out k (by rw [HMM.out] at hsz; omega)) hne (by omega) hsl
            rw [hrl, ← hpl] at HT
            have HT := Lib.hid HT
            clear hI2 hpl hrl hne hsl
            go_wp2_with fail
            refine HT.out.mono ?_
            rintro e w' ⟨r, rfl, hr, hb, _⟩
            go_wp2_with fail
            go_ret2
            rw [HMM.out] at hbel hsz
            exact ⟨r, rfl, hr, hbel.trans (hb.mono hsz)⟩
end Go.Proofs.YtiielblnmfeapaaGreatDoor
namespace Go.Proofs.YtiielblnmfeapaaGreatDoor
open Go.RowKit Go.Qz Go.Qz.RS
set_option linter.unusedVariables false

/-- A polynomial of at most so many coefficients, from numbers. -/
def polyOf (F : Fld) (z : Nat → Int) (k : Nat) : List Nat := if k = 0 then [0] else tidy (elems F z k)
theorem polyOf_ne (F : Fld) (z : Nat → Int) (k : Nat) : polyOf F z k ≠ [] := by
  unfold polyOf
  split
  · simp
  · rename_i h
    exact tidy_ne _ (fun e => by have := congrArg List.length e; rw [elems_length, List.length_nil] at this; exact h this)
theorem polyOf_tidy (F : Fld) (z : Nat → Int) (k : Nat) : tidy (polyOf F z k) = polyOf F z k := by
  unfold polyOf
  split
  · rfl
  · exact tidy_tidy _
theorem mem_tidy : ∀ (l : List Nat) (x : Nat), x ∈ tidy l → x ∈ l
  | [], _, h => h
  | [a], _, h => h
  | a :: b :: t, x, h => by
    unfold tidy at h
    split at h
    · exact List.mem_cons_of_mem _ (mem_tidy (b :: t) x h)
    · exact h
theorem polyOf_lt (F : Fld) (hF : 4 ≤ F.size) (z : Nat → Int) (k : Nat) : ∀ j, nth (polyOf F z k) j < F.size := by
  intro j
  by_cases h : j < (polyOf F z k).length
  · rw [nth_eq h]
    have hm := List.getElem_mem h
    revert hm
    generalize (polyOf F z k)[j] = x
    unfold polyOf
    split
    · intro hm; have : x = 0 := by simpa using hm
      omega
    · intro hm
      exact elems_lt F hF z k x (mem_tidy _ _ hm)
  · have : nth (polyOf F z k) j = 0 := by unfold nth; rw [List.getD_eq_getElem?_getD, List.getElem?_eq_none (by omega)]; rfl
    rw [this]; omega
theorem polyOf_length (F : Fld) (z : Nat → Int) (k : Nat) : (polyOf F z k).length ≤ k + 1 := by
  unfold polyOf
  split
  · simp
  · have := tidy_length (elems F z k); rw [elems_length] at this; omega

end Go.Proofs.YtiielblnmfeapaaGreatDoor
namespace Go.Proofs.YtiielblnmfeapaaGreatDoor
open Go.RowKit Go.Qz Go.Qz.RS
set_option linter.unusedVariables false

end Go.Proofs.YtiielblnmfeapaaGreatDoor
