/-
  BISameBits and AZBegins, walked. No condition beyond the bounds that each theorem states.
-/
import Derived.Test.YtiielblnmfeapaaAZM
import Derived.BigQuiet
import Derived.BigRegion
namespace Go.Proofs.Ytiielblnmfeapaa
open Go.RowKit Go.Qz
set_option linter.unusedVariables false

set_option maxRecDepth 100000 in
set_option maxHeartbeats 1600000 in
theorem biSameBits (f : Nat → Bool) (A B : Option Addr) (n c d : Nat) (hn : n < 100000) (w : World) (hA : Rd w A n (fun j => .bool (f j))) (hB : Rd w B n (fun j => .bool (f j))) :
    Calls Try.prog 13 #[.slice A n c, .slice B n d] w fun e w' => e = .returned (.bool true) ∧ Below w.heap.size w w' := by
  have HA := Lib.hid hA
  have HB := Lib.hid hB
  clear hA hB
  go_enter Try.func13, Try.ntmps13
  go_wp2_with fail
  go_loopw [5] (fun i wr => ∃ k : Nat, k ≤ n ∧ i = .int .i64 k ∧ Below w.heap.size w wr) (fun i _ => n - (intOf i).toNat)
  case atStart => exact ⟨0, by omega, rfl, Below.refl _ _⟩
  case round =>
    obtain ⟨k, hk, rfl, hbel⟩ := hrel
    by_cases hlt : k < n
    · obtain ⟨ab, ao, rfl, hab, hac⟩ := (HA.out.below hbel) (by omega)
      obtain ⟨bb, bo, rfl, hbb, hbc⟩ := (HB.out.below hbel) (by omega)
      have ca := hac k hlt
      have cb := hbc k hlt
      dsimp only at ca cb
      generalize f k = v at *
      have hk0 : (0 : Int) ≤ (k : Int) := by omega
      have hk1 : (k : Int) < (n : Int) := by omega
      have hv : (v != v) = false := by cases v <;> rfl
      have hv2 : (!v == v) = false := by cases v <;> rfl
      have HBEL := Lib.hid hbel
      clear hac hbc hbel
      go_wp2_with fail
      go_quiet (fail)
      go_wp2_with fail
      go_roundw
      case rel => exact ⟨k + 1, by omega, by go_num, below_drewN HBEL.out _⟩
      case measure => simp [intOf]; omega
    · obtain rfl : k = n := by omega
      go_wp2_with fail
      go_ret
      exact ⟨rfl, hbel⟩

set_option maxRecDepth 100000 in
set_option maxHeartbeats 3200000 in
theorem azBegins (x y : List Bool) (A B : Option Addr) (n m c d : Nat) (hn : n < 1000000) (hmn : m ≤ n) (h1 : ∀ j, j < m → nthB x j = nthB y j) (h2 : ∀ j, m ≤ j → j < n → nthB x j = true) (w : World) (hA : Rd w A n (fun j => .bool (nthB x j))) (hB : Rd w B m (fun j => .bool (nthB y j))) :
    Calls Try.prog 15 #[.slice A n c, .slice B m d] w fun e w' => e = .returned (.bool true) ∧ Below w.heap.size w w' := by
  have HA := Lib.hid hA
  have HB := Lib.hid hB
  have H1 := Lib.hid h1
  have H2 := Lib.hid h2
  have hnm : ((n : Int) < (m : Int)) = False := by simp; omega
  clear hA hB h1 h2
  go_enter Try.func15, Try.ntmps15
  go_wp2_with fail
  go_loopw [5] (fun i wr => ∃ k : Nat, k ≤ n ∧ i = .int .i64 k ∧ Below w.heap.size w wr) (fun i _ => n - (intOf i).toNat)
  case atStart => exact ⟨0, by omega, rfl, Below.refl _ _⟩
  case round =>
    obtain ⟨k, hk, rfl, hbel⟩ := hrel
    by_cases hlt : k < n
    · obtain ⟨ab, ao, rfl, hab, hac⟩ := (HA.out.below hbel) (by omega)
      have ca := hac k hlt
      dsimp only at ca
      have hk0 : (0 : Int) ≤ (k : Int) := by omega
      have hk1 : (k : Int) < (n : Int) := by omega
      have HBEL := Lib.hid hbel
      by_cases hm : k < m
      · obtain ⟨bb, bo, rfl, hbb, hbc⟩ := (HB.out.below hbel) (by omega)
        have cb := hbc k hm
        dsimp only at cb
        rw [← H1.out k hm] at cb
        generalize nthB x k = v at *
        have hv : (v != v) = false := by cases v <;> rfl
        have hv2 : (!v == v) = false := by cases v <;> rfl
        have hm1 : (k : Int) < (m : Int) := by omega
        have hm2 : ((m : Int) ≤ (k : Int)) = False := by simp; omega
        clear hac hbc hbel hnm
        go_wp2_with fail
        go_quiet (fail)
        go_wp2_with fail
        go_roundw
        case rel => exact ⟨k + 1, by omega, by go_num, below_drewN HBEL.out _⟩
        case measure => simp [intOf]; omega
      · rw [H2.out k (by omega) hlt] at ca
        have hm1 : ((k : Int) < (m : Int)) = False := by simp; omega
        have hm2 : (m : Int) ≤ (k : Int) := by omega
        clear hac hbel hnm
        go_wp2_with fail
        go_quiet (fail)
        go_wp2_with fail
        go_roundw
        case rel => exact ⟨k + 1, by omega, by go_num, below_drewN HBEL.out _⟩
        case measure => simp [intOf]; omega
    · obtain rfl : k = n := by omega
      go_wp2_with fail
      go_ret
      exact ⟨rfl, hbel⟩
end Go.Proofs.Ytiielblnmfeapaa
