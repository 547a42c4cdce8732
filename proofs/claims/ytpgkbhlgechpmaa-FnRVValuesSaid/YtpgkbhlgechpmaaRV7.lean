/-
  RVAsked, walked: it computes asked. No condition beyond the bounds that each theorem states.
-/
import Derived.Test.YtpgkbhlgechpmaaRV1
import Derived.Test.YtpgkbhlgechpmaaRV4
namespace Go.Proofs.Ytpgkbhlgechpmaa
open Go.RowKit Go.Qz Go.Qz.RV

/-- What the standard asks for. -/
def asked (l : List Nat) (m : Nat) (o : Bool) : Bool := decide (total l < 2 * m + l.length) && (!o || decide (total l + 1 < m + 2 * l.length))

set_option maxRecDepth 100000 in
set_option maxHeartbeats 1600000 in
theorem rvAsked (l : List Nat) (m : Nat) (o : Bool) (A : Option Addr) (c : Nat) (w : World) (hm : m ≤ 9) (hl : ∀ x ∈ l, 1 ≤ x ∧ x ≤ 9) (hn : l.length ≤ 6) (h : Ws w A l) :
    Calls Try.prog 14 #[.slice A l.length c, .int .i64 m, .bool o] w fun e w' => e = .returned (.bool (asked l m o)) ∧ w = w' := by
  have hT := total_le l (fun x hx => (hl x hx).2)
  obtain ⟨r, hr⟩ : ∃ r, r = asked l m o := ⟨_, rfl⟩
  rw [← hr]
  unfold asked at hr
  have HR := Lib.hid hr
  clear hr
  have HC := Lib.hid (rvSum l A c w (by omega) (by omega) h)
  generalize total l = t at *
  by_cases h1 : t < 2 * m + l.length
  · cases o
    · go_enter Try.func14, Try.ntmps14
      go_wp2_with fail
      refine HC.out.mono ?_
      rintro r w' ⟨rfl, rfl⟩
      go_wp2_with fail
      go_ret
      rw [HR.out]
      simp [h1]
    · by_cases h2 : t + 1 < m + 2 * l.length
      all_goals
        go_enter Try.func14, Try.ntmps14
        go_wp2_with fail
        refine HC.out.mono ?_
        rintro r w' ⟨rfl, rfl⟩
        go_wp2_with fail
        go_ret
        rw [HR.out]
        simp [h1, h2]; omega
  · go_enter Try.func14, Try.ntmps14
    go_wp2_with fail
    refine HC.out.mono ?_
    rintro r w' ⟨rfl, rfl⟩
    go_wp2_with fail
    go_ret
    rw [HR.out]
    simp [h1]
end Go.Proofs.Ytpgkbhlgechpmaa
