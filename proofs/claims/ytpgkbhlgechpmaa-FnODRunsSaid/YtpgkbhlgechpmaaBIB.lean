/-
  biBits, walked: at most so many bits, copied. No condition.
-/
import Derived.Test.YtpgkbhlgechpmaaRows
import Derived.Test.YtpgkbhlgechpmaaBase
namespace Go.Proofs.Ytpgkbhlgechpmaa
open Go.RowKit Go.Qz
set_option linter.unusedVariables false

theorem Try.infoBool : (Try.prog.info? 4).map (fun i => (i.zero, i.size, i.bytes)) = some (some (.bool false), 1, 1) := by kernel_rfl

set_option maxRecDepth 100000 in
set_option maxHeartbeats 1600000 in
theorem biBits (A : Option Addr) (n c m : Nat) (z : Nat → Bool) (w : World) (hn : n < 4294967296) (hc : n ≤ c) (hm : m ≤ 1000) (h : Rd w A n (fun j => .bool (z j))) :
    Calls Try.prog 25 #[.slice A n c, .int .i64 m] w fun e w' => ∃ v, e = .returned v ∧ w'.ownsRow w.heap.size 4 1 v (min n m) ((List.range (min n m)).map fun j => Value.bool (z j)) ∧ Below w.heap.size w w' := by
  have hown := World.ownsRow_lit (e := 4) (size := 1) w #[] 0 (Nat.le_refl w.heap.size) (by unfold maxLen; omega) rfl
  have hb0 : Below w.heap.size w (w.alloc (.cells #[] 4)) := (Below.refl _ _).alloc (Nat.le_refl _) _
  have h2 := h.alloc (.cells #[] 4)
  by_cases hnm : (n : Int) < m
  · rw [show min n m = n by omega]
    go_enter Try.func25, Try.ntmps25
    go_wp2_with (at_builtin; refine wpList_copyTo _ _ 52 w.heap.size 4 (.bool false) 1 _ 0 [] _ _ _ _ rfl rfl rfl rfl Try.underlying52 Try.infoBool rfl ?_ (by decide) hown h2 ?_ ?_ ?_)
    · intro j hj; rfl
    · omega
    · intro v' w' hown' hg hb
      have HO := Lib.hid hown'
      clear hown' hown
      go_wp2_with fail
      go_ret
      exact ⟨_, rfl, by simpa using HO.out, hb0.trans hb⟩
  · rw [show min n m = m by omega]
    have h3 : Rd (w.alloc (.cells #[] 4)) A m (fun j => .bool (z j)) := fun h0 => by
      obtain ⟨b, off, e1, e2, e3⟩ := h2 (by omega)
      exact ⟨b, off, e1, e2, fun j hj => e3 j (by omega)⟩
    have hcc : (m : Int) ≤ c := by omega
    rcases Nat.lt_or_ge m n with hmn | hmn
    · have hmn' : (m : Int) < n := by omega
      go_enter Try.func25, Try.ntmps25
      go_wp2_with (at_builtin; refine wpList_copyTo _ _ 52 w.heap.size 4 (.bool false) 1 _ 0 [] _ m _ _ rfl rfl rfl rfl Try.underlying52 Try.infoBool rfl ?_ (by decide) hown h3 ?_ ?_ ?_)
      · intro j hj; rfl
      · omega
      · intro v' w' hown' hg hb
        have HO := Lib.hid hown'
        clear hown' hown
        go_wp2_with fail
        go_ret
        exact ⟨_, rfl, by simpa using HO.out, hb0.trans hb⟩
    · obtain rfl : m = n := by omega
      go_enter Try.func25, Try.ntmps25
      go_wp2_with (at_builtin; refine wpList_copyTo _ _ 52 w.heap.size 4 (.bool false) 1 _ 0 [] _ m _ _ rfl rfl rfl rfl Try.underlying52 Try.infoBool rfl ?_ (by decide) hown h3 ?_ ?_ ?_)
      · intro j hj; rfl
      · omega
      · intro v' w' hown' hg hb
        have HO := Lib.hid hown'
        clear hown' hown
        go_wp2_with fail
        go_ret
        exact ⟨_, rfl, by simpa using HO.out, hb0.trans hb⟩

end Go.Proofs.Ytpgkbhlgechpmaa
