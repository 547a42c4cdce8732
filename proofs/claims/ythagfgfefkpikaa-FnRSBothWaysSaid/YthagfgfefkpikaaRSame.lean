/-
  RSSame, walked: whether two lists of numbers are the same. No condition.
-/
import Derived.Test.YthagfgfefkpikaaRows
import Derived.Test.YthagfgfefkpikaaBase
import Derived.Deep.QuietTactic
import Derived.BigQuiet
namespace Go.Proofs.Ythagfgfefkpikaa
open Go.RowKit Go.Qz
set_option linter.unusedVariables false

/-- n elements f and m elements g are the same. -/
def SameP (n m : Nat) (f g : Nat → Int) (r : Bool) : Prop := r = true ↔ n = m ∧ ∀ j, j < n → f j = g j

set_option maxRecDepth 100000 in
set_option maxHeartbeats 1600000 in
theorem rsSame (A B : Option Addr) (n m c d : Nat) (f g : Nat → Int) (w : World) (hn : n < 4294967296) (hm : m < 4294967296) (ha : Rd w A n (fun j => .int .i64 (f j))) (hb : Rd w B m (fun j => .int .i64 (g j))) :
    Calls Try.prog 17 #[.slice A n c, .slice B m d] w fun e w' => RetB (SameP n m f g) w e w' := by
  by_cases hnm : n = m
  · subst hnm
    go_enter Try.func17, Try.ntmps17
    go_wp2_with fail
    go_loopw [5] (fun i wr => ∃ k : Nat, k ≤ n ∧ i = .int .i64 k ∧ Hid (∀ j, j < k → f j = g j) ∧ Below w.heap.size w wr) (fun i _ => n - (intOf i).toNat)
    case atStart => exact ⟨0, by omega, rfl, Lib.hid (by intro j hj; omega), Below.refl _ _⟩
    case round =>
      obtain ⟨k, hk, rfl, hall, hbel⟩ := hrel
      by_cases hlt : k < n
      · obtain ⟨b1, o1, rfl, _, hc1⟩ := (ha.below hbel) (by omega)
        obtain ⟨b2, o2, rfl, _, hc2⟩ := (hb.below hbel) (by omega)
        have h1 := hc1 k hlt; dsimp only at h1
        have h2 := hc2 k hlt; dsimp only at h2
        clear hc1 hc2 ha hb
        by_cases hfg : f k = g k
        · have hF := Lib.hid hfg
          rw [hfg] at h1
          clear hfg
          go_wp2_with fail
          go_quiet (fail)
          go_wp2_with fail
          go_roundw
          case rel => exact ⟨k + 1, by omega, by go_num, Lib.hid (by
            intro j hj
            by_cases h : j = k
            · rw [h]; exact hF.out
            · exact hall.out j (by omega)), below_drewN hbel _⟩
          case measure => simp [intOf]; omega
        · have hF := Lib.hid hfg
          have hne : (f k == g k) = false := by simpa using hfg
          have hne2 : (f k != g k) = true := by simpa using hfg
          clear hfg
          go_wp2_with fail
          go_quiet (fail)
          go_wp2_with fail
          go_ret
          exact RetB.mk false ⟨fun h => (by cases h), fun h => absurd (h.2 k hlt) hF.out⟩ (below_drewN hbel _)
      · obtain rfl : k = n := by omega
        go_wp2_with fail
        go_ret
        exact RetB.mk true ⟨fun _ => ⟨rfl, hall.out⟩, fun _ => rfl⟩ hbel
  · have hne : ((n : Int) == (m : Int)) = false := by simpa using (by omega : (n : Int) ≠ m)
    have hne2 : ((n : Int) != (m : Int)) = true := by simpa using (by omega : (n : Int) ≠ m)
    go_enter Try.func17, Try.ntmps17
    go_wp2_with fail
    go_ret
    exact RetB.mk false ⟨fun h => (by cases h), fun h => absurd h.1 hnm⟩ (Below.refl _ _)
end Go.Proofs.Ythagfgfefkpikaa
