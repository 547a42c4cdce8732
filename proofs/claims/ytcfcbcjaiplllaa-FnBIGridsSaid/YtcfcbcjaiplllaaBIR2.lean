/-
  FnBIRanges, the rest: errors.New, ArrayIsRange, biBits, BINext, and the law. No condition.
-/
import Derived.Test.YtcfcbcjaiplllaaBIR
import Derived.WideLaws
import Derived.Deep.QuietTactic
import Derived.BigQuiet
namespace Go.Proofs.Ytcfcbcjaiplllaa
open Go.RowKit Go.Qz
set_option linter.unusedVariables false

/-- An error that errors.New made. -/
def IsErr (v : Value) : Prop := ∃ b : Nat, v = .iface 102 (.pointer (some ⟨b, 0, none⟩))

set_option maxRecDepth 100000 in
theorem err_new (s : ByteArray) (w : World) :
    Calls Try.prog 59 #[.string s] w fun e w' => ∃ v, e = .returned v ∧ IsErr v ∧ Below w.heap.size w w' := by
  go_enter Try.func59, Try.ntmps59
  go_wp2_with fail
  go_ret
  exact ⟨_, rfl, ⟨_, rfl⟩, (Below.refl _ _).alloc (Nat.le_refl _) _⟩
theorem errIface : Try.prog.underlying 53 = some (.interface (Try.prog.methodsAt 53)) := by kernel_rfl
theorem eql_err (v : Value) (h : IsErr v) (w : World) : (binOp .eql 53 v .nilIface).run Try.prog w = .ok (.bool false) w := by
  obtain ⟨b, rfl⟩ := h
  exact run_eql_held_nil w _ _ _ errIface
theorem eql_err' (b : Nat) (w : World) : (binOp .eql 53 (.iface 102 (.pointer (some ⟨b, 0, none⟩))) .nilIface).run Try.prog w = .ok (.bool false) w := eql_err _ ⟨b, rfl⟩ w
attribute [local go_sem] eql_err'
theorem eql_nil (w : World) : (binOp .eql 53 .nilIface .nilIface).run Try.prog w = .ok (.bool true) w := by
  kernel_rfl

set_option maxRecDepth 100000 in
set_option maxHeartbeats 1600000 in
theorem ba_isRange_bad (S E : Int) (v : Bool) (p g n : Nat) (ws : List Nat) (w : World) (h : BA w p g ws n) (hbad : E < S ∨ S < 0 ∨ (n : Int) < E) :
    Calls Try.prog 21 #[.pointer (some ⟨p, 0, none⟩), .int .i64 S, .int .i64 E, .bool v] w fun r w' => ∃ x, r = .returned (.tuple #[.bool false, x]) ∧ IsErr x ∧ Below w.heap.size w w' := by
  have hsize := h.size
  have hbits := h.bits
  clear h
  by_cases h1 : E < S
  · go_enter Try.func21, Try.ntmps21
    go_wp2_with fail
    refine (err_new _ _).mono ?_
    rintro e w' ⟨x, rfl, hx, hb⟩
    go_wp2_with fail
    go_ret2
    exact ⟨_, rfl, hx, hb⟩
  · by_cases h2 : S < 0
    · go_enter Try.func21, Try.ntmps21
      go_wp2_with fail
      refine (err_new _ _).mono ?_
      rintro e w' ⟨x, rfl, hx, hb⟩
      go_wp2_with fail
      go_ret2
      exact ⟨_, rfl, hx, hb⟩
    · have h3 : (n : Int) < E := by omega
      clear hbad
      go_enter Try.func21, Try.ntmps21
      go_wp2_with fail
      refine (err_new _ _).mono ?_
      rintro e w' ⟨x, rfl, hx, hb⟩
      go_wp2_with fail
      go_ret2
      exact ⟨_, rfl, hx, hb⟩

set_option maxRecDepth 100000 in
theorem ba_isRange_empty (S : Int) (v : Bool) (p g n : Nat) (ws : List Nat) (w : World) (h : BA w p g ws n) (hS : 0 ≤ S) (hE : S ≤ n) :
    Calls Try.prog 21 #[.pointer (some ⟨p, 0, none⟩), .int .i64 S, .int .i64 S, .bool v] w fun r w' => r = .returned (.tuple #[.bool true, .nilIface]) ∧ w = w' := by
  have hsize := h.size
  go_enter Try.func21, Try.ntmps21
  go_wp2_with fail
  go_ret2
  exact ⟨rfl, rfl⟩

set_option maxRecDepth 100000 in
set_option maxHeartbeats 1600000 in
theorem arrayIsRange (S E : Int) (v : Bool) (A : Option Addr) (n c : Nat) (z : Nat → Bool) (w : World) (hn : n ≤ 200) (h : Rd w A n (fun j => .bool (z j))) :
    Calls Try.prog 8 #[.slice A n c, .int .i64 S, .int .i64 E, .bool v] w fun r w' => ∃ b f, r = .returned (.tuple #[.bool b, .bool f]) ∧ Below w.heap.size w w' ∧
      (f = decide (0 ≤ S ∧ S ≤ E ∧ E ≤ n)) ∧ (f = true → (b = true ↔ ∀ i : Nat, (i : Int) < E → S ≤ i → z i = v)) := by
  have hnl := eql_nil
  go_enter Try.func8, Try.ntmps8
  go_wp2_with fail
  refine (ba_array A n c z _ (by omega) h).mono ?_
  rintro e w1 ⟨p, g, ws, rfl, hba, hl, hbit, hb, _, _⟩
  by_cases hok : 0 ≤ S ∧ S ≤ E ∧ E ≤ n
  · have HOK := Lib.hid hok
    have HB := Lib.hid hbit
    have hex : Hid (∃ b : Bool, (b = true ↔ ∀ i : Nat, (i : Int) < E → S ≤ i → z i = v) ∧ Calls Try.prog 21 #[.pointer (some ⟨p, 0, none⟩), .int .i64 S, .int .i64 E, .bool v] w1 fun r w' => r = .returned (.tuple #[.bool b, .nilIface]) ∧ w1 = w') := by
      refine Lib.hid ?_
      rcases Int.lt_or_le S E with hlt | hge
      · refine ⟨_, ?_, ba_isRange S E S.toNat E.toNat v (by omega) (by omega) p g n ws w1 hba hl (by omega) (by omega) (by omega)⟩
        unfold allBits
        rw [decide_eq_true_iff]
        constructor
        · intro hh i h1 h2
          rw [← hh i (by omega) (by omega), hbit]
          simp; omega
        · intro hh i h1 h2
          rw [hbit]
          simp only [hh i (by omega) (by omega), show i < n by omega, decide_true, Bool.true_and]
      · obtain rfl : S = E := by omega
        refine ⟨true, ?_, ba_isRange_empty S v p g n ws w1 hba hok.1 hok.2.2⟩
        exact ⟨fun _ i h1 h2 => by omega, fun _ => rfl⟩
    clear hok hbit hl
    obtain ⟨b, hbv, hcall⟩ := hex.out
    have HC := Lib.hid hcall
    have HBV := Lib.hid hbv
    clear hcall hbv hex hba
    go_wp2_with fail
    refine HC.out.mono ?_
    rintro e w' ⟨rfl, rfl⟩
    go_wp2_with fail
    go_quiet (fail)
    go_wp2_with fail
    go_ret2
    exact ⟨_, _, rfl, below_drewN hb _, by rw [eq_comm, decide_eq_true_iff]; exact HOK.out, fun _ => HBV.out⟩
  · have HC := Lib.hid (ba_isRange_bad S E v p g n ws w1 hba (by omega))
    have HOK := Lib.hid hok
    clear hok hbit hl hba
    go_wp2_with fail
    refine HC.out.mono ?_
    rintro e w' ⟨x, rfl, hx, hb2⟩
    obtain ⟨bx, rfl⟩ := hx
    go_wp2_with fail
    go_quiet (fail)
    go_wp2_with fail
    go_ret2
    exact ⟨_, _, rfl, below_drewN (hb.trans (hb2.mono hb.size)) _, by rw [eq_comm, decide_eq_false_iff_not]; exact HOK.out, fun h => by cases h⟩
end Go.Proofs.Ytcfcbcjaiplllaa
