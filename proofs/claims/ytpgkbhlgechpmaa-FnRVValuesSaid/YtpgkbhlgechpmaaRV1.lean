/-
  What RVWidths makes, walked. No condition beyond the bounds that each theorem states.
-/
import Derived.Test.YtpgkbhlgechpmaaRows
import Derived.Test.YtpgkbhlgechpmaaBase
namespace Go.Proofs.Ytpgkbhlgechpmaa
open Go.RowKit Go.Qz

theorem Try.info3 : (Try.prog.info? 3).map (fun i => (i.zero, i.size, i.bytes)) = some (some (.int .i64 0), 1, 8) := by kernel_rfl

/-- The widths, made by numbers. -/
def widths (l : Nat → Nat) (m : Nat) (k : Nat) : List Nat := (List.range k).map fun i => 1 + l i % m

theorem widths_succ (l : Nat → Nat) (m k : Nat) : widths l m (k + 1) = widths l m k ++ [1 + l k % m] := by simp [widths, List.range_succ]

set_option maxRecDepth 100000 in
set_option maxHeartbeats 800000 in
theorem rvWidths (l : Nat → Nat) (A : Option Addr) (n c m : Nat) (w : World) (hm0 : 1 ≤ m) (hm : m ≤ 9) (hn : n ≤ 4294967296) (hl : ∀ j, j < n → l j ≤ 255)
    (h : Rd w A n (fun j => .int .u8 (l j))) :
    Calls Try.prog 13 #[.slice A n c, .int .i64 m] w fun e w' => ∃ v, e = .returned v ∧
      w'.ownsRow w.heap.size 3 1 v (if n = 0 then 1 else min n 6) ((if n = 0 then [1] else widths l m (min n 6)).map fun x : Nat => Value.int .i64 (x : Int)) ∧ Below w.heap.size w w' := by
  go_enter Try.func13, Try.ntmps13
  go_wp2
  go_loopw [5, 6] (fun v i wr => ∃ k : Nat, k ≤ min n 6 ∧ i = .int .i64 k ∧ wr.ownsRow w.heap.size 3 1 v k ((widths l m k).map fun x : Nat => Value.int .i64 (x : Int)) ∧ Below w.heap.size w wr) (fun _ i _ => 6 - (intOf i).toNat)
  case atStart => exact ⟨0, by omega, rfl, World.ownsRow_nil _ _ _ _, Below.refl _ _⟩
  case round =>
    obtain ⟨k, hk, rfl, hown, hbel⟩ := hrel
    by_cases hlt : k < n ∧ k < 6
    · obtain ⟨h1, h2⟩ := hlt
      have hr := h.below hbel
      obtain ⟨b, off, rfl, hb, hc⟩ := hr (by omega)
      have hck := hc k h1
      have hlk := hl k h1
      clear hc h hl
      have hm1 : ((l k : Int) % (m : Int)) < m := Int.emod_lt_of_pos _ (by omega)
      have hm2 : 0 ≤ ((l k : Int) % (m : Int)) := Int.emod_nonneg _ (by omega)
      go_wp2_with (at_builtin; refine wpList_push _ _ 28 w.heap.size 3 (.int .i64 0) 8 _ k _ _ rfl rfl rfl rfl Try.underlying28 Try.info3 rfl (by rfl) (by decide) hown ?_ ?_ ?_)
      · omega
      · exact hbel.size
      · intro v' w1 hown1 hg1 hb1
        clear hown hck
        go_wp2
        go_roundw
        case rel => exact ⟨k + 1, by omega, by go_num, by rw [widths_succ, List.map_append]; simpa using hown1, hbel.trans hb1⟩
        case measure => simp [intOf]; omega
    · have hkk : k = min n 6 := by omega
      have H := Lib.hid hkk; clear hkk
      have hb1 : 6 ≤ k → (decide ((k : Int) < 6) = false) := by intro; simp; omega
      obtain ⟨A', c', rfl, hc', hcm, hrd⟩ := Rd.of_own hown
      by_cases h0 : n = 0
      · subst h0
        obtain rfl : k = 0 := by omega
        go_wp2
        go_ret
        exact ⟨_, rfl, by simpa using World.ownsRow_lit wr #[.int .i64 1] 1 hbel.size (by unfold maxLen; omega) rfl, (hbel.alloc hbel.size _)⟩
      · have hne : ((k : Int) == 0) = false := by simp; omega
        by_cases h6 : k < 6
        · have h7 : (n : Int) ≤ k := by omega
          go_wp2
          go_ret
          exact ⟨_, rfl, by rw [← H.out]; simpa using hown, hbel⟩
        · have h8 := hb1 (by omega)
          go_wp2
          all_goals go_ret
          all_goals exact ⟨_, rfl, by rw [← H.out]; simpa using hown, hbel⟩
end Go.Proofs.Ytpgkbhlgechpmaa
