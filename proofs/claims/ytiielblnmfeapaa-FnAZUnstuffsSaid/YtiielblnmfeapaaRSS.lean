/-
  RSPlus and AddOrSubtract, walked. No condition beyond the bounds that each theorem states.
-/
import Derived.Test.YtiielblnmfeapaaRSK
import Derived.Test.YtiielblnmfeapaaGFS
import Derived.Deep.QuietTactic
import Derived.BigQuiet
import Derived.Deep.RegionHeld3
namespace Go.Proofs.Ytiielblnmfeapaa
open Go.RowKit Go.Qz Go.Qz.RS
set_option linter.unusedVariables false

theorem own_mono {w : World} {b b' : Nat} {e : TypeId} {size : Nat} {v : Value} {n : Nat} {xs : List Value} (h : w.ownsRow b e size v n xs) (hb : b' ≤ b) : w.ownsRow b' e size v n xs := by
  obtain ⟨h1, h2⟩ := h
  refine ⟨h1, ?_⟩
  rcases h2 with h | ⟨g, cap, cur, h3, h4, h5⟩
  · exact .inl h
  · exact .inr ⟨g, cap, cur, h3, Nat.le_trans hb h4, h5⟩

set_option maxRecDepth 100000 in
set_option maxHeartbeats 1600000 in
theorem rsPlus (a b : List Nat) (ha0 : a ≠ []) (ha : a.length < 1000000) (hb : b.length < 1000000) (hav : ∀ j, nth a j < 65536) (hbv : ∀ j, nth b j < 65536) (A B : Option Addr) (c d : Nat) (w : World)
    (hA : Rd w A a.length (fun j => .int .i64 (nth a j : Nat))) (hB : Rd w B b.length (fun j => .int .i64 (nth b j : Nat))) :
    Calls Try.prog 48 #[.slice A a.length c, .slice B b.length d] w fun e w' => ∃ v, e = .returned v ∧ w'.ownsRow w.heap.size 3 1 v (plus a b).length ((plus a b).map fun x : Nat => Value.int .i64 (x : Int)) ∧ Below w.heap.size w w' := by
  have hap := List.length_pos_iff.2 ha0
  have HAV := Lib.hid hav
  have HBV := Lib.hid hbv
  have HA := Lib.hid hA
  have HB := Lib.hid hB
  clear hA hB hav hbv
  by_cases hlen : a.length < b.length
  · have hmk := fun W => run_make1 (P := Try.prog) 25 3 (.int .i64 0) 8 Try.underlying25 Try.infoInt rfl (by decide) b.length (by omega) .i64 .i64 b.length rfl W
    have hnpos : 0 < b.length := by omega
    have hpl : plus a b = tidy (rawTo a b b.length b.length) := by unfold plus; rw [show max a.length b.length = b.length by omega]
    have HP := Lib.hid hpl
    clear hpl
    go_enter Try.func48, Try.ntmps48
    go_wp2_with fail
    have hI := IA.zeros w 3 b.length
    rw [← rawTo_zero a b] at hI
    have hB0 : Below w.heap.size w (w.alloc (.cells (zeros b.length (.int .i64 0)) 3)) := (Below.refl _ _).alloc (Nat.le_refl _) _
    obtain ⟨w0, hw0⟩ : ∃ w0, w0 = w.alloc (.cells (zeros b.length (.int .i64 0)) 3) := ⟨_, rfl⟩
    rw [← hw0] at hI hB0 ⊢
    obtain ⟨M, hM⟩ : ∃ M, M = w.heap.size := ⟨_, rfl⟩
    rw [← hM] at hI hB0 ⊢
    have HMM := Lib.hid hM
    clear hw0 hmk hM
    go_loopw [7] (fun i wr => ∃ k : Nat, k ≤ b.length ∧ i = .int .i64 k ∧ IA wr 3 M (rawTo a b b.length k) ∧ Below M w wr) (fun i _ => b.length - (intOf i).toNat)
    case atStart => exact ⟨0, by omega, rfl, hI, hB0⟩
    case round =>
      obtain ⟨k, hk, rfl, hI2, hbel⟩ := hrel
      clear hI hB0
      by_cases hlt : k < b.length
      · have hrl := rawTo_length a b b.length k
        have hz := hI2.cell (j := k) (by omega)
        rw [rawTo_nth _ _ _ _ _ hlt, if_neg (by omega)] at hz
        have hfz := hI2.free k
        by_cases has : b.length ≤ a.length + k
        · obtain ⟨ia, hia⟩ : ∃ ia, ia = a.length + k - b.length := ⟨_, rfl⟩
          obtain ⟨ib, hib⟩ : ∃ ib, ib = b.length + k - b.length := ⟨_, rfl⟩
          have eA : (a.length : Int) - (b.length : Nat) + (k : Nat) = (ia : Nat) := by omega
          have eB : (b.length : Int) - (b.length : Nat) + (k : Nat) = (ib : Nat) := by omega
          obtain rfl : k = ib := by omega
          clear eB
          obtain ⟨bA, oA, rfl, lA, cA⟩ := HA.out (by omega)
          obtain ⟨bB, oB, rfl, lB, cB⟩ := HB.out (by omega)
          rw [← HMM.out] at lA lB
          have hpa : pat a b.length k = nth a ia := by unfold pat; rw [if_pos (by omega), ← hia]
          have hpb : pat b b.length k = nth b k := by unfold pat; rw [if_pos (by omega), ← hib]
          have hAv := HAV.out ia
          have hBv := HBV.out k
          have cA := cA ia (by omega)
          have cB := cB k (by omega)
          dsimp only at cA cB
          have cA2 : wr.cell? ⟨bA, oA + ia, none⟩ = some (.int .i64 (nth a ia : Nat)) := by rw [← cA]; exact hbel.cell lA
          have x0 : bits .xor .i64 0 (nth a ia : Nat) = (nth a ia : Nat) := by have := i64_xor 0 (nth a ia) (by omega) (by omega); rwa [Nat.zero_xor] at this
          have x1 := i64_xor (nth a ia) (nth b k) (by omega) (by omega)
          have hI3 := hI2.set_ k (nth a ia)
          have hz3 := hI3.cell (j := k) (by simp; omega)
          have hf3 := hI3.free k
          rw [nth_set (by omega), if_pos rfl] at hz3
          have cB3 : (wr.setCell ⟨M, k, none⟩ (.int .i64 (nth a ia : Nat))).cell? ⟨bB, oB + k, none⟩ = some (.int .i64 (nth b k : Nat)) := by rw [← cB]; exact (hbel.setCell (p := ⟨M, k, none⟩) (Nat.le_refl _) _).cell lB
          have hI4 := hI3.set_ k (nth a ia ^^^ nth b k)
          rw [List.set_set, ← hpa, ← hpb, rawTo_set, hpa, hpb] at hI4
          have hb4 := (hbel.setCell (p := ⟨M, k, none⟩) (Nat.le_refl _) (.int .i64 (nth a ia : Nat))).setCell (p := ⟨M, k, none⟩) (Nat.le_refl _) (.int .i64 (nth a ia ^^^ nth b k : Nat))
          have HI4 := Lib.hid hI4
          have HB4 := Lib.hid hb4
          clear hI2 hI3 hI4 hb4 hrl hpa hpb hia hib cA cB HA HB
          go_wp2_with fail
          go_region
          go_wp2_with fail
          go_region
          go_wp2_with fail
          go_roundw
          case rel => exact ⟨k + 1, by omega, by go_num, HI4.out.mod (Mod.drewN (Mod.refl (S := fun _ => False) _) 2) (fun h => h), below_drewN HB4.out 2⟩
          case measure => simp [intOf]; omega
        · have hneg : (a.length : Int) - (b.length : Nat) + (k : Nat) < 0 := by omega
          obtain ⟨bB, oB, rfl, lB, cB⟩ := HB.out (by omega)
          rw [← HMM.out] at lB
          have hp1 : pat b b.length k = nth b k := by unfold pat; rw [if_pos (by omega), show b.length + k - b.length = k by omega]
          have hp0 : pat a b.length k = 0 := by unfold pat; rw [if_neg (by omega)]
          have hv := HBV.out k
          have cB := cB k (by omega)
          dsimp only at cB
          have c2 : wr.cell? ⟨bB, oB + k, none⟩ = some (.int .i64 (nth b k : Nat)) := by rw [← cB]; exact hbel.cell lB
          have x0 : bits .xor .i64 0 (nth b k : Nat) = (nth b k : Nat) := by have := i64_xor 0 (nth b k) (by omega) (by omega); rwa [Nat.zero_xor] at this
          have hI3 := hI2.set_ k (nth b k)
          rw [show nth b k = pat a b.length k ^^^ pat b b.length k by rw [hp0, hp1]; simp, rawTo_set, hp0, hp1] at hI3
          have hb4 := hbel.setCell (p := ⟨M, k, none⟩) (Nat.le_refl _) (.int .i64 (nth b k : Nat))
          simp only [Nat.zero_xor] at hI3
          have HI4 := Lib.hid hI3
          have HB4 := Lib.hid hb4
          clear hI2 hI3 hb4 hrl hp0 hp1 cB HA HB
          go_wp2_with fail
          go_region
          go_wp2_with fail
          go_roundw
          case rel => exact ⟨k + 1, by omega, by go_num, HI4.out.mod (Mod.drewN (Mod.refl (S := fun _ => False) _) 1) (fun h => h), below_drewN HB4.out 1⟩
          case measure => simp [intOf]; omega
      · obtain rfl : k = b.length := by omega
        have hne : rawTo a b b.length b.length ≠ [] := by intro e; have := congrArg List.length e; rw [rawTo_length, List.length_nil] at this; omega
        have hrl := rawTo_length a b b.length b.length
        have HT := rsTidy (rawTo a b b.length b.length) hne (by omega) (some ⟨M, 0, none⟩) b.length (by omega) wr hI2.rd
        rw [hrl, ← HP.out] at HT
        have HT := Lib.hid HT
        have hsz : M ≤ wr.heap.size := Nat.le_of_lt hI2.lt
        have HS := Lib.hid hI2
        clear hI2 hne hrl
        go_wp2_with fail
        refine HT.out.mono ?_
        rintro e w' ⟨v, rfl, hown, hb⟩
        go_wp2_with fail
        go_ret
        rw [HMM.out] at hbel hsz
        exact ⟨_, rfl, own_mono hown hsz, hbel.trans (hb.mono hsz)⟩
  · have hmk := fun W => run_make1 (P := Try.prog) 25 3 (.int .i64 0) 8 Try.underlying25 Try.infoInt rfl (by decide) a.length (by omega) .i64 .i64 a.length rfl W
    have hnpos : 0 < a.length := by omega
    have hpl : plus a b = tidy (rawTo a b a.length a.length) := by unfold plus; rw [show max a.length b.length = a.length by omega]
    have HP := Lib.hid hpl
    clear hpl
    go_enter Try.func48, Try.ntmps48
    go_wp2_with fail
    have hI := IA.zeros w 3 a.length
    rw [← rawTo_zero a b] at hI
    have hB0 : Below w.heap.size w (w.alloc (.cells (zeros a.length (.int .i64 0)) 3)) := (Below.refl _ _).alloc (Nat.le_refl _) _
    obtain ⟨w0, hw0⟩ : ∃ w0, w0 = w.alloc (.cells (zeros a.length (.int .i64 0)) 3) := ⟨_, rfl⟩
    rw [← hw0] at hI hB0 ⊢
    obtain ⟨M, hM⟩ : ∃ M, M = w.heap.size := ⟨_, rfl⟩
    rw [← hM] at hI hB0 ⊢
    have HMM := Lib.hid hM
    clear hw0 hmk hM
    go_loopw [7] (fun i wr => ∃ k : Nat, k ≤ a.length ∧ i = .int .i64 k ∧ IA wr 3 M (rawTo a b a.length k) ∧ Below M w wr) (fun i _ => a.length - (intOf i).toNat)
    case atStart => exact ⟨0, by omega, rfl, hI, hB0⟩
    case round =>
      obtain ⟨k, hk, rfl, hI2, hbel⟩ := hrel
      clear hI hB0
      by_cases hlt : k < a.length
      · have hrl := rawTo_length a b a.length k
        have hz := hI2.cell (j := k) (by omega)
        rw [rawTo_nth _ _ _ _ _ hlt, if_neg (by omega)] at hz
        have hfz := hI2.free k
        by_cases has : a.length ≤ b.length + k
        · obtain ⟨ia, hia⟩ : ∃ ia, ia = a.length + k - a.length := ⟨_, rfl⟩
          obtain ⟨ib, hib⟩ : ∃ ib, ib = b.length + k - a.length := ⟨_, rfl⟩
          have eA : (a.length : Int) - (a.length : Nat) + (k : Nat) = (ia : Nat) := by omega
          have eB : (b.length : Int) - (a.length : Nat) + (k : Nat) = (ib : Nat) := by omega
          obtain rfl : k = ia := by omega
          clear eA
          obtain ⟨bA, oA, rfl, lA, cA⟩ := HA.out (by omega)
          obtain ⟨bB, oB, rfl, lB, cB⟩ := HB.out (by omega)
          rw [← HMM.out] at lA lB
          have hpa : pat a a.length k = nth a k := by unfold pat; rw [if_pos (by omega), ← hia]
          have hpb : pat b a.length k = nth b ib := by unfold pat; rw [if_pos (by omega), ← hib]
          have hAv := HAV.out k
          have hBv := HBV.out ib
          have cA := cA k (by omega)
          have cB := cB ib (by omega)
          dsimp only at cA cB
          have cA2 : wr.cell? ⟨bA, oA + k, none⟩ = some (.int .i64 (nth a k : Nat)) := by rw [← cA]; exact hbel.cell lA
          have x0 : bits .xor .i64 0 (nth a k : Nat) = (nth a k : Nat) := by have := i64_xor 0 (nth a k) (by omega) (by omega); rwa [Nat.zero_xor] at this
          have x1 := i64_xor (nth a k) (nth b ib) (by omega) (by omega)
          have hI3 := hI2.set_ k (nth a k)
          have hz3 := hI3.cell (j := k) (by simp; omega)
          have hf3 := hI3.free k
          rw [nth_set (by omega), if_pos rfl] at hz3
          have cB3 : (wr.setCell ⟨M, k, none⟩ (.int .i64 (nth a k : Nat))).cell? ⟨bB, oB + ib, none⟩ = some (.int .i64 (nth b ib : Nat)) := by rw [← cB]; exact (hbel.setCell (p := ⟨M, k, none⟩) (Nat.le_refl _) _).cell lB
          have hI4 := hI3.set_ k (nth a k ^^^ nth b ib)
          rw [List.set_set, ← hpa, ← hpb, rawTo_set, hpa, hpb] at hI4
          have hb4 := (hbel.setCell (p := ⟨M, k, none⟩) (Nat.le_refl _) (.int .i64 (nth a k : Nat))).setCell (p := ⟨M, k, none⟩) (Nat.le_refl _) (.int .i64 (nth a k ^^^ nth b ib : Nat))
          have HI4 := Lib.hid hI4
          have HB4 := Lib.hid hb4
          clear hI2 hI3 hI4 hb4 hrl hpa hpb hia hib cA cB HA HB
          go_wp2_with fail
          go_region
          go_wp2_with fail
          go_region
          go_wp2_with fail
          go_roundw
          case rel => exact ⟨k + 1, by omega, by go_num, HI4.out.mod (Mod.drewN (Mod.refl (S := fun _ => False) _) 2) (fun h => h), below_drewN HB4.out 2⟩
          case measure => simp [intOf]; omega
        · have hneg : (b.length : Int) - (a.length : Nat) + (k : Nat) < 0 := by omega
          obtain ⟨bA, oA, rfl, lA, cA⟩ := HA.out (by omega)
          rw [← HMM.out] at lA
          have hp1 : pat a a.length k = nth a k := by unfold pat; rw [if_pos (by omega), show a.length + k - a.length = k by omega]
          have hp0 : pat b a.length k = 0 := by unfold pat; rw [if_neg (by omega)]
          have hv := HAV.out k
          have cA := cA k (by omega)
          dsimp only at cA
          have c2 : wr.cell? ⟨bA, oA + k, none⟩ = some (.int .i64 (nth a k : Nat)) := by rw [← cA]; exact hbel.cell lA
          have x0 : bits .xor .i64 0 (nth a k : Nat) = (nth a k : Nat) := by have := i64_xor 0 (nth a k) (by omega) (by omega); rwa [Nat.zero_xor] at this
          have hI3 := hI2.set_ k (nth a k)
          rw [show nth a k = pat a a.length k ^^^ pat b a.length k by rw [hp0, hp1]; simp, rawTo_set, hp0, hp1] at hI3
          have hb4 := hbel.setCell (p := ⟨M, k, none⟩) (Nat.le_refl _) (.int .i64 (nth a k : Nat))
          simp only [Nat.xor_zero] at hI3
          have HI4 := Lib.hid hI3
          have HB4 := Lib.hid hb4
          clear hI2 hI3 hb4 hrl hp0 hp1 cA HA HB
          go_wp2_with fail
          go_region
          go_wp2_with fail
          go_roundw
          case rel => exact ⟨k + 1, by omega, by go_num, HI4.out.mod (Mod.drewN (Mod.refl (S := fun _ => False) _) 1) (fun h => h), below_drewN HB4.out 1⟩
          case measure => simp [intOf]; omega
      · obtain rfl : k = a.length := by omega
        have hne : rawTo a b a.length a.length ≠ [] := by intro e; have := congrArg List.length e; rw [rawTo_length, List.length_nil] at this; omega
        have hrl := rawTo_length a b a.length a.length
        have HT := rsTidy (rawTo a b a.length a.length) hne (by omega) (some ⟨M, 0, none⟩) a.length (by omega) wr hI2.rd
        rw [hrl, ← HP.out] at HT
        have HT := Lib.hid HT
        have hsz : M ≤ wr.heap.size := Nat.le_of_lt hI2.lt
        have HS := Lib.hid hI2
        clear hI2 hne hrl
        go_wp2_with fail
        refine HT.out.mono ?_
        rintro e w' ⟨v, rfl, hown, hb⟩
        go_wp2_with fail
        go_ret
        rw [HMM.out] at hbel hsz
        exact ⟨_, rfl, own_mono hown hsz, hbel.trans (hb.mono hsz)⟩
--TAIL
end Go.Proofs.Ytiielblnmfeapaa
