/-
  The layers of a symbol have as many bits as their modules: the walks of FnAZRoom and of what it calls. No condition.
-/
import Derived.Test.YtpgkbhlgechpmaaRows
import Derived.Test.YtpgkbhlgechpmaaBase
namespace Go.Proofs.Ytpgkbhlgechpmaa
namespace AZRoom
open Go.RowKit Go.Qz
set_option maxHeartbeats 400000 in
theorem azLayers_any (c : Bool) (n : Int) (h0 : 0 ≤ n) (h1 : n ≤ 255) (w : World) :
    Calls Try.prog 9 #[.bool c, .int .u8 n] w fun e w' => e = .returned (.int .i64 (if c then 1 + n % 4 else 1 + n % 32)) ∧ w = w' := by
  cases c
  · go_enter Try.func9, Try.ntmps9
    go_wp2
    go_ret
    exact ⟨rfl, rfl⟩
  · go_enter Try.func9, Try.ntmps9
    go_wp2
    go_ret
    exact ⟨rfl, rfl⟩
theorem azLayers_ex (c : Bool) (n : Int) (h0 : 0 ≤ n) (h1 : n ≤ 255) (w : World) :
    Calls Try.prog 9 #[.bool c, .int .u8 n] w fun e w' => ∃ m : Int, 1 ≤ m ∧ m ≤ 32 ∧ e = .returned (.int .i64 m) ∧ w = w' :=
  (azLayers_any c n h0 h1 w).mono fun _ _ ⟨he, hw⟩ => ⟨_, by split <;> omega, by split <;> omega, he, hw⟩
def bits (c : Bool) (n : Int) : Int := if c then wrap64 ((88 + 16 * n) * n) else wrap64 ((112 + 16 * n) * n)
set_option maxHeartbeats 400000 in
theorem total (c : Bool) (n : Int) (h0 : 1 ≤ n) (h1 : n ≤ 32) (w : World) :
    Calls Try.prog 42 #[.int .i64 n, .bool c] w fun e w' => e = .returned (.int .i64 (bits c n)) ∧ w = w' := by
  cases c <;>
  · go_enter Try.func42, Try.ntmps42
    go_wp2
    go_ret
    exact ⟨rfl, rfl⟩
theorem total' (c : Bool) (n : Int) (h0 : 1 ≤ n) (h1 : n ≤ 32) (w : World) :
    Calls Try.prog 29 #[.int .i64 n, .bool c] w fun e w' => e = .returned (.int .i64 (bits c n)) ∧ w = w' := by
  go_enter Try.func29, Try.ntmps29
  go_wp2_with (go_at_call 42; refine (total c n h0 h1 _).mono ?_; rintro e w' ⟨rfl, rfl⟩)
  go_ret
  exact ⟨rfl, rfl⟩
theorem room (c : Bool) (n : Int) (h0 : 1 ≤ n) (h1 : n ≤ 32) (w : World) :
    Calls Try.prog 10 #[.int .i64 n, .bool c] w fun e w' => e = .returned (.int .i64 (bits c n)) ∧ w = w' := by
  go_enter Try.func10, Try.ntmps10
  go_wp2_with (go_at_call 29; refine (total' c n h0 h1 _).mono ?_; rintro e w' ⟨rfl, rfl⟩)
  go_ret
  exact ⟨rfl, rfl⟩
set_option maxHeartbeats 400000 in
theorem specBits (c : Bool) (n : Int) (h0 : 1 ≤ n) (h1 : n ≤ 32) (w : World) :
    Calls Try.prog 11 #[.bool c, .int .i64 n] w fun e w' => e = .returned (.int .i64 (bits c n)) ∧ w = w' := by
  cases c <;>
  · go_enter Try.func11, Try.ntmps11
    go_wp2
    go_ret
    exact ⟨rfl, rfl⟩
theorem fnAZRoom_walk (w : World) (a0 : Bool) (a1 : Int) (w1 : (Lit.int .u8 a1).wf = true) :
    Calls Try.prog 3 #[.bool a0, .int .u8 a1] w fun e w' => e = .returned (.bool true) ∧ Below w.heap.size w w' := by
  have hb : 0 ≤ a1 ∧ a1 ≤ 255 := by simpa [Lit.wf, IntKind.min, IntKind.max, IntKind.signed, IntKind.bits] using w1
  obtain ⟨h0, h1⟩ := hb
  go_enter Try.func3, Try.ntmps3
  go_wp2_with fail
  refine (azLayers_ex a0 a1 h0 h1 _).mono ?_
  rintro e w' ⟨m, hm1, hm2, rfl, rfl⟩
  go_wp2_with fail
  refine (room a0 m hm1 hm2 _).mono ?_; rintro e w' ⟨rfl, rfl⟩
  go_wp2_with fail
  refine (specBits a0 m hm1 hm2 _).mono ?_; rintro e w' ⟨rfl, rfl⟩
  go_wp2
  go_ret
  exact ⟨rfl, Below.refl _ _⟩

end AZRoom
end Go.Proofs.Ytpgkbhlgechpmaa
