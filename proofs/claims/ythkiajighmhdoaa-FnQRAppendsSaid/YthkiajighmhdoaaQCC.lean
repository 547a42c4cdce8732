/-
  Bytes compared, and what segments say (the reference's), walked. No condition beyond the bounds that each theorem states.
-/
import Derived.Test.YthkiajighmhdoaaQCB
namespace Go.Proofs.Ythkiajighmhdoaa
open Go.RowKit Go.Qz Go.Qz.BS Go.Qz.QA
set_option linter.unusedVariables false

set_option maxRecDepth 100000 in
set_option maxHeartbeats 3200000 in
theorem sameBytes (T : List Nat) (n : Nat) (hn : n = T.length) (hn2 : n ≤ 100) (A : Option Addr) (c : Nat) (A' : Option Addr) (c' : Nat) (w : World) (h : Rd w A n (fun i => .int .u8 (nth T i : Nat))) (h' : Rd w A' n (fun i => .int .u8 (nth T i : Nat))) :
    Calls Try.prog 29 #[.slice A n c, .slice A' n c'] w fun e w' => e = .returned (.bool true) ∧ Below w.heap.size w w' := by
  have H1 := Lib.hid h
  have H2 := Lib.hid h'
  clear h h' hn
  go_enter Try.func29, Try.ntmps29
  go_wp2_with fail
  go_loopw [13] (fun i wr => ∃ (q : Nat), q ≤ n ∧ i = .int .i64 q ∧ Hid (Below w.heap.size w wr)) (fun i _ => n - (intOf i).toNat)
  case atStart => exact ⟨0, Nat.zero_le _, rfl, Lib.hid (Below.refl _ _)⟩
  case round =>
    obtain ⟨q, hq, rfl, HB⟩ := hrel
    obtain ⟨wi, hwi⟩ : ∃ wi, wi = wr := ⟨_, rfl⟩
    rw [← hwi] at HB ⊢
    clear hwi
    by_cases hqn : q < n
    · have hq1 : (q : Int) < (n : Int) := by omega
      have hq0 : (0 : Int) ≤ (q : Int) := by omega
      obtain ⟨b, off, rfl, hb, hc⟩ := H1.out (by omega)
      obtain ⟨b2, off2, rfl, hb2, hc2⟩ := H2.out (by omega)
      have c0 : wi.cell? ⟨b, off + q, none⟩ = some (.int .u8 (nth T q : Nat)) := (HB.out.cell (p := ⟨b, off + q, none⟩) hb).trans (hc q hqn)
      have c1 : wi.cell? ⟨b2, off2 + q, none⟩ = some (.int .u8 (nth T q : Nat)) := (HB.out.cell (p := ⟨b2, off2 + q, none⟩) hb2).trans (hc2 q hqn)
      obtain ⟨x, hx⟩ : ∃ x, x = nth T q := ⟨_, rfl⟩
      rw [← hx] at c0 c1
      clear hc hc2 hx
      go_wp2_with fail
      go_quiet (fail)
      all_goals
        go_wp2_with fail
        go_roundw
        case rel => exact ⟨q + 1, by omega, by go_num, Lib.hid (Go.Qz.below_drewN HB.out _)⟩
        case measure => simp [intOf]; omega
    · obtain rfl : q = n := by omega
      go_wp2_with fail
      go_ret
      exact ⟨rfl, HB.out⟩
end Go.Proofs.Ythkiajighmhdoaa
