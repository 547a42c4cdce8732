/-
  RSProduct, walked. No condition beyond the bounds that each theorem states.
-/
import Derived.Test.YtiielblnmfeapaaGreatDoorRSD6
import Derived.Test.YtiielblnmfeapaaGreatDoorRSQ
import Derived.BigRegion
import Derived.Deep.RegionLaw
namespace Go.Proofs.YtiielblnmfeapaaGreatDoor
open Go.RowKit Go.Qz Go.Qz.RS
set_option linter.unusedVariables false

set_option maxRecDepth 100000 in
set_option maxHeartbeats 3200000 in
theorem rsProduct (F : Fld) (hF : Six F) (a b : List Nat) (ha0 : a ≠ []) (hb0 : b ≠ []) (ha : a.length < 5000) (hb : b.length < 5000) (hae : El F a) (hbe : El F b) (A B : Option Addr) (c d : Nat) (w : World)
    (hA : Rd w A a.length (fun j => .int .i64 (nth a j : Nat))) (hB : Rd w B b.length (fun j => .int .i64 (nth b j : Nat))) :
    Calls Tryz.prog 80 #[fv F, .slice A a.length c, .slice B b.length d] w fun e w' => ∃ v, e = .returned v ∧ w'.ownsRow w.heap.size 3 1 v (prod F a b).length ((prod F a b).map fun x : Nat => Value.int .i64 (x : Int)) ∧ Below w.heap.size w w' := by
  have hs := hF.bounds
  have hap := List.length_pos_iff.2 ha0
  have hbp := List.length_pos_iff.2 hb0
  obtain ⟨ab, ao, rfl, hal, hac⟩ := hA hap
  obtain ⟨bb, bo, rfl, hbl, hbc⟩ := hB hbp
  have HAC := Lib.hid hac
  have HBC := Lib.hid hbc
  have HAE := Lib.hid hae
  have HBE := Lib.hid hbe
  obtain ⟨N, hN⟩ : ∃ N, N = a.length + b.length - 1 := ⟨_, rfl⟩
  have eN : (a.length : Int) + (b.length : Int) - 1 = (N : Int) := by omega
  have hN1 : N < 10000 := by omega
  have hN2 : ∀ i k, i < a.length → k < b.length → i + k < N := by omega
  have HN := Lib.hid hN
  have HN2 := Lib.hid hN2
  have hmk := fun W => run_make1 (P := Tryz.prog) 24 3 (.int .i64 0) 8 Tryz.underlying24 Tryz.infoInt rfl (by decide) N (by omega) .i64 .i64 (N : Int) rfl W
  clear hac hbc hA hB hae hbe hN hN2
  unfold fv
  go_enter Tryz.func80, Tryz.ntmps80
  go_wp2_with fail
  have hAr : Arr ((w.alloc (.cells #[.int .i64 F.prim, .int .i64 F.size, .int .i64 F.base] 71)).alloc (.cells (zeros N (.int .i64 0)) 3)) 71 w.heap.size [.int .i64 F.prim, .int .i64 F.size, .int .i64 F.base] := by
    unfold Arr
    rw [Below.heap_alloc _ _ _ (by simp), heap_alloc_new]
  have hI := IA.zeros (w.alloc (.cells #[.int .i64 F.prim, .int .i64 F.size, .int .i64 F.base] 71)) 3 N
  have hBl : Below w.heap.size w ((w.alloc (.cells #[.int .i64 F.prim, .int .i64 F.size, .int .i64 F.base] 71)).alloc (.cells (zeros N (.int .i64 0)) 3)) :=
    ((Below.refl _ _).alloc (Nat.le_refl _) _).alloc (by simp) _
  simp only [World.size_alloc] at hI
  generalize ((w.alloc (.cells #[.int .i64 F.prim, .int .i64 F.size, .int .i64 F.base] 71)).alloc (.cells (zeros N (.int .i64 0)) 3)) = W3 at *
  obtain ⟨H, hH⟩ : ∃ H, H = w.heap.size := ⟨_, rfl⟩
  rw [← hH] at hAr hI hBl hal hbl ⊢
  have HH := Lib.hid hH
  have h0 : List.replicate N 0 = prows F a b 0 := by rw [prows, HN.out]
  rw [h0] at hI
  clear hH hmk h0
  go_loopw [8] (fun i wr => ∃ k : Nat, k ≤ a.length ∧ i = .int .i64 k ∧ IA wr 3 (H + 1) (prows F a b k) ∧ Arr wr 71 H [.int .i64 F.prim, .int .i64 F.size, .int .i64 F.base] ∧ Below H w wr) (fun i _ => a.length - (intOf i).toNat)
  case atStart => exact ⟨0, by omega, rfl, hI, hAr, hBl⟩
  case round =>
    obtain ⟨i, hi, rfl, hI2, hA2, hB2⟩ := hrel
    clear hI hAr hBl
    by_cases hlt : i < a.length
    · have hI2 : IA wr 3 (H + 1) (prow F a b i (prows F a b i) 0) := hI2
      go_wp2_with fail
      obtain ⟨W4, hW4⟩ : ∃ W4, W4 = wr := ⟨_, rfl⟩
      rw [← hW4] at hI2 hA2 hB2 ⊢
      clear hW4
      go_loopw [9] (fun i' wr => ∃ k : Nat, k ≤ b.length ∧ i' = .int .i64 k ∧ IA wr 3 (H + 1) (prow F a b i (prows F a b i) k) ∧ Arr wr 71 H [.int .i64 F.prim, .int .i64 F.size, .int .i64 F.base] ∧ Below H w wr) (fun i _ => b.length - (intOf i).toNat)
      case atStart => exact ⟨0, by omega, rfl, hI2, hA2, hB2⟩
      case round =>
        obtain ⟨k, hk, rfl, hI3, hA3, hB3⟩ := hrel
        clear hI2 hA2 hB2
        by_cases hltk : k < b.length
        · have hpl : (prow F a b i (prows F a b i) k).length = N := by rw [prow_length, prows_length]; exact HN.out.symm
          have hij := HN2.out i k hlt hltk
          have hz := hI3.cell (j := i + k) (by omega)
          have hfz := hI3.free (i + k)
          have hol : nth (prow F a b i (prows F a b i) k) (i + k) < F.size := prow_lt hF HAE.out HBE.out i _ (prows_el hF HAE.out HBE.out i (by omega)) k (by rw [prows_length, ← HN.out]; omega) _
          have hml := mul_lt hF (b := nth b k) (HAE.out i)
          have hst : (prow F a b i (prows F a b i) k).set (i + k) (nth (prow F a b i (prows F a b i) k) (i + k) ^^^ mul F (nth a i) (nth b k)) = prow F a b i (prows F a b i) (k + 1) := rfl
          obtain ⟨o, ho⟩ : ∃ o, o = nth (prow F a b i (prows F a b i) k) (i + k) := ⟨_, rfl⟩
          obtain ⟨m, hm⟩ : ∃ m, m = mul F (nth a i) (nth b k) := ⟨_, rfl⟩
          rw [← ho] at hz hol
          rw [← hm] at hml
          have hx := i64_xor o m (by omega) (by omega)
          obtain ⟨ik, hik⟩ : ∃ ik, ik = i + k := ⟨_, rfl⟩
          rw [← hik] at hz hfz hij
          obtain ⟨v, hv⟩ : ∃ v, v = o ^^^ m := ⟨_, rfl⟩
          rw [← hv] at hx
          have eik : (i : Int) + (k : Int) = (ik : Int) := by omega
          have hij0 : (0 : Int) ≤ (ik : Int) := by omega
          have hij1 : (ik : Int) < (N : Int) := by omega
          have hi0 : (0 : Int) ≤ (i : Int) := by omega
          have hi1 : (i : Int) < (a.length : Int) := by omega
          have hk0 : (0 : Int) ≤ (k : Int) := by omega
          have hk1 : (k : Int) < (b.length : Int) := by omega
          have hwr : IntKind.i64.wrap (ik : Int) = (ik : Int) := by rw [IntKind.wrap_i64]; omega
          have a0 := hA3.cell? 0
          have a1 := hA3.cell? 1
          have a2 := hA3.cell? 2
          simp only [List.getElem?_cons_zero, List.getElem?_cons_succ] at a0 a1 a2
          have cA : wr.cell? ⟨ab, ao + i, none⟩ = some (.int .i64 (nth a i : Nat)) := (hB3.cell (p := ⟨ab, ao + i, none⟩) hal).trans (HAC.out i hlt)
          have cB : wr.cell? ⟨bb, bo + k, none⟩ = some (.int .i64 (nth b k : Nat)) := (hB3.cell (p := ⟨bb, bo + k, none⟩) hbl).trans (HBC.out k hltk)
          have HR := Lib.hid (fun W => rsTimes F hF (nth a i) (nth b k) (nth b k) rfl (HAE.out i) (HBE.out k) W)
          rw [← hm] at HR
          unfold fv at HR
          have HA3 := Lib.hid hA3
          have HB3 := Lib.hid hB3
          have HI3 := Lib.hid hI3
          have hst2 : (prow F a b i (prows F a b i) k).set ik v = prow F a b i (prows F a b i) (k + 1) := by rw [hv, ho, hm, hik]; exact hst
          have HSET := Lib.hid (fun W (hW : IA W 3 (H + 1) (prow F a b i (prows F a b i) k)) => by
            have h := hW.set_ ik v
            rw [hst2] at h
            exact h)
          clear hI3 hA3 hB3 ho hm hv hst hst2 hpl hik
          go_wp2_with fail
          go_region_law (first | (go_simp; go_at_call 78; refine (HR.out _).mono ?_; rintro e w1 ⟨rfl, hb1⟩; have hz1 : w1.cell? ⟨H + 1, ik, none⟩ = some (.int .i64 (o : Nat)) := (hb1.cell (p := ⟨H + 1, ik, none⟩) HI3.out.lt).trans hz; have hf1 : w1.frozen? ⟨H + 1, ik, none⟩ = false := (hb1.frozen (p := ⟨H + 1, ik, none⟩) HI3.out.lt).trans hfz; have HB1 := Lib.hid hb1; clear hb1))
          all_goals
            have hm1 := (Mod.drew (Mod.refl (S := fun _ => False) wr)).trans (Mod.of_below (S := fun _ => False) HB1.out)
            have HI5 := Lib.hid (HSET.out _ (HI3.out.mod hm1 (fun h => h)))
            have HA5 := Lib.hid ((HA3.out.mod hm1 (fun h => h)).mod (Mod.set1 w1 (H + 1) ik (.int .i64 (v : Nat))) (by omega))
            have HB5 := Lib.hid ((HB3.out.drew.trans (HB1.out.mono (Nat.le_of_lt (Nat.lt_of_lt_of_le HA3.out.lt (Nat.le_refl _))))).setCell (p := ⟨H + 1, ik, none⟩) (Nat.le_succ _) (.int .i64 (v : Nat)))
            clear hm1 HB1 hz1 hf1 HSET HI3 HA3 HB3 HR hz hfz cA cB a0 a1 a2
            go_wp2_with fail
            go_roundw
            case rel => exact ⟨k + 1, by omega, by go_num, HI5.out, HA5.out, HB5.out⟩
            case measure => simp [intOf]; omega
        · obtain rfl : k = b.length := by omega
          have HI3 : Hid (IA wr 3 (H + 1) (prows F a b (i + 1))) := Lib.hid hI3
          clear hI3
          go_wp2_with fail
          go_roundw
          case rel => exact ⟨i + 1, by omega, by go_num, HI3.out, hA3, hB3⟩
          case measure => simp [intOf]; omega
    · obtain rfl : i = a.length := by omega
      have hne : prows F a b a.length ≠ [] := prows_ne ha0 hb0 _
      have hrl := prows_length F a b a.length
      rw [← HN.out] at hrl
      have HT := rsTidy (prows F a b a.length) hne (by omega) (some ⟨H + 1, 0, none⟩) N (by omega) wr hI2.rd
      have hpd : tidy (prows F a b a.length) = prod F a b := rfl
      rw [hrl, hpd] at HT
      have HT := Lib.hid HT
      have hsz : H ≤ wr.heap.size := Nat.le_of_lt hA2.lt
      clear hI2 hne hrl hpd
      go_wp2_with fail
      refine HT.out.mono ?_
      rintro e w' ⟨v, rfl, hown, hb⟩
      go_wp2_with fail
      go_ret
      rw [HH.out] at hB2 hsz
      exact ⟨_, rfl, own_mono hown hsz, hB2.trans (hb.mono hsz)⟩
end Go.Proofs.YtiielblnmfeapaaGreatDoor
