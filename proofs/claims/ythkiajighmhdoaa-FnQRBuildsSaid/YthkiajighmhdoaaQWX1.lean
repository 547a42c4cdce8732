/-
  versionOf, walked, versions 1 to 10: all that it lays in memory. No condition.
-/
import Derived.Test.YthkiajighmhdoaaQWV
namespace Go.Proofs.Ythkiajighmhdoaa
open Go.RowKit Go.Qz Go.Qz.QW
set_option linter.unusedVariables false

set_option maxRecDepth 100000 in
set_option maxHeartbeats 16000000 in
theorem verAt1 (w : World) : Calls Try.prog 42 #[.int .i64 1] w (VerGot 1 w) := by
  go_enter Try.func42, Try.ntmps42
  go_wp2_with fail
  refine (newVersionV 1 w.heap.size _ _ (by decide) (by decide) (by decide) (VerBlk.mk' (by kernel_rfl)).1).mono ?_
  rintro e w1 ⟨p, rfl, hA, hb⟩
  have HA := Lib.hid hA
  have HB := Lib.hid hb
  clear hA hb
  go_wp2_with fail
  go_ret
  exact ⟨p, rfl, HA.out, ((VerBlk.mk' (n := 1) (by kernel_rfl)).2).trans (HB.out.mono (by simp; omega))⟩

set_option maxRecDepth 100000 in
set_option maxHeartbeats 16000000 in
theorem verAt2 (w : World) : Calls Try.prog 42 #[.int .i64 2] w (VerGot 2 w) := by
  go_enter Try.func42, Try.ntmps42
  go_wp2_with fail
  refine (newVersionV 2 w.heap.size _ _ (by decide) (by decide) (by decide) (VerBlk.mk' (by kernel_rfl)).1).mono ?_
  rintro e w1 ⟨p, rfl, hA, hb⟩
  have HA := Lib.hid hA
  have HB := Lib.hid hb
  clear hA hb
  go_wp2_with fail
  go_ret
  exact ⟨p, rfl, HA.out, ((VerBlk.mk' (n := 2) (by kernel_rfl)).2).trans (HB.out.mono (by simp; omega))⟩

set_option maxRecDepth 100000 in
set_option maxHeartbeats 16000000 in
theorem verAt3 (w : World) : Calls Try.prog 42 #[.int .i64 3] w (VerGot 3 w) := by
  go_enter Try.func42, Try.ntmps42
  go_wp2_with fail
  refine (newVersionV 3 w.heap.size _ _ (by decide) (by decide) (by decide) (VerBlk.mk' (by kernel_rfl)).1).mono ?_
  rintro e w1 ⟨p, rfl, hA, hb⟩
  have HA := Lib.hid hA
  have HB := Lib.hid hb
  clear hA hb
  go_wp2_with fail
  go_ret
  exact ⟨p, rfl, HA.out, ((VerBlk.mk' (n := 3) (by kernel_rfl)).2).trans (HB.out.mono (by simp; omega))⟩

set_option maxRecDepth 100000 in
set_option maxHeartbeats 16000000 in
theorem verAt4 (w : World) : Calls Try.prog 42 #[.int .i64 4] w (VerGot 4 w) := by
  go_enter Try.func42, Try.ntmps42
  go_wp2_with fail
  refine (newVersionV 4 w.heap.size _ _ (by decide) (by decide) (by decide) (VerBlk.mk' (by kernel_rfl)).1).mono ?_
  rintro e w1 ⟨p, rfl, hA, hb⟩
  have HA := Lib.hid hA
  have HB := Lib.hid hb
  clear hA hb
  go_wp2_with fail
  go_ret
  exact ⟨p, rfl, HA.out, ((VerBlk.mk' (n := 4) (by kernel_rfl)).2).trans (HB.out.mono (by simp; omega))⟩

set_option maxRecDepth 100000 in
set_option maxHeartbeats 16000000 in
theorem verAt5 (w : World) : Calls Try.prog 42 #[.int .i64 5] w (VerGot 5 w) := by
  go_enter Try.func42, Try.ntmps42
  go_wp2_with fail
  refine (newVersionV 5 w.heap.size _ _ (by decide) (by decide) (by decide) (VerBlk.mk' (by kernel_rfl)).1).mono ?_
  rintro e w1 ⟨p, rfl, hA, hb⟩
  have HA := Lib.hid hA
  have HB := Lib.hid hb
  clear hA hb
  go_wp2_with fail
  go_ret
  exact ⟨p, rfl, HA.out, ((VerBlk.mk' (n := 5) (by kernel_rfl)).2).trans (HB.out.mono (by simp; omega))⟩

set_option maxRecDepth 100000 in
set_option maxHeartbeats 16000000 in
theorem verAt6 (w : World) : Calls Try.prog 42 #[.int .i64 6] w (VerGot 6 w) := by
  go_enter Try.func42, Try.ntmps42
  go_wp2_with fail
  refine (newVersionV 6 w.heap.size _ _ (by decide) (by decide) (by decide) (VerBlk.mk' (by kernel_rfl)).1).mono ?_
  rintro e w1 ⟨p, rfl, hA, hb⟩
  have HA := Lib.hid hA
  have HB := Lib.hid hb
  clear hA hb
  go_wp2_with fail
  go_ret
  exact ⟨p, rfl, HA.out, ((VerBlk.mk' (n := 6) (by kernel_rfl)).2).trans (HB.out.mono (by simp; omega))⟩

set_option maxRecDepth 100000 in
set_option maxHeartbeats 16000000 in
theorem verAt7 (w : World) : Calls Try.prog 42 #[.int .i64 7] w (VerGot 7 w) := by
  go_enter Try.func42, Try.ntmps42
  go_wp2_with fail
  refine (newVersionV 7 w.heap.size _ _ (by decide) (by decide) (by decide) (VerBlk.mk' (by kernel_rfl)).1).mono ?_
  rintro e w1 ⟨p, rfl, hA, hb⟩
  have HA := Lib.hid hA
  have HB := Lib.hid hb
  clear hA hb
  go_wp2_with fail
  go_ret
  exact ⟨p, rfl, HA.out, ((VerBlk.mk' (n := 7) (by kernel_rfl)).2).trans (HB.out.mono (by simp; omega))⟩

set_option maxRecDepth 100000 in
set_option maxHeartbeats 16000000 in
theorem verAt8 (w : World) : Calls Try.prog 42 #[.int .i64 8] w (VerGot 8 w) := by
  go_enter Try.func42, Try.ntmps42
  go_wp2_with fail
  refine (newVersionV 8 w.heap.size _ _ (by decide) (by decide) (by decide) (VerBlk.mk' (by kernel_rfl)).1).mono ?_
  rintro e w1 ⟨p, rfl, hA, hb⟩
  have HA := Lib.hid hA
  have HB := Lib.hid hb
  clear hA hb
  go_wp2_with fail
  go_ret
  exact ⟨p, rfl, HA.out, ((VerBlk.mk' (n := 8) (by kernel_rfl)).2).trans (HB.out.mono (by simp; omega))⟩

set_option maxRecDepth 100000 in
set_option maxHeartbeats 16000000 in
theorem verAt9 (w : World) : Calls Try.prog 42 #[.int .i64 9] w (VerGot 9 w) := by
  go_enter Try.func42, Try.ntmps42
  go_wp2_with fail
  refine (newVersionV 9 w.heap.size _ _ (by decide) (by decide) (by decide) (VerBlk.mk' (by kernel_rfl)).1).mono ?_
  rintro e w1 ⟨p, rfl, hA, hb⟩
  have HA := Lib.hid hA
  have HB := Lib.hid hb
  clear hA hb
  go_wp2_with fail
  go_ret
  exact ⟨p, rfl, HA.out, ((VerBlk.mk' (n := 9) (by kernel_rfl)).2).trans (HB.out.mono (by simp; omega))⟩

set_option maxRecDepth 100000 in
set_option maxHeartbeats 16000000 in
theorem verAt10 (w : World) : Calls Try.prog 42 #[.int .i64 10] w (VerGot 10 w) := by
  go_enter Try.func42, Try.ntmps42
  go_wp2_with fail
  refine (newVersionV 10 w.heap.size _ _ (by decide) (by decide) (by decide) (VerBlk.mk' (by kernel_rfl)).1).mono ?_
  rintro e w1 ⟨p, rfl, hA, hb⟩
  have HA := Lib.hid hA
  have HB := Lib.hid hb
  clear hA hb
  go_wp2_with fail
  go_ret
  exact ⟨p, rfl, HA.out, ((VerBlk.mk' (n := 10) (by kernel_rfl)).2).trans (HB.out.mono (by simp; omega))⟩

end Go.Proofs.Ythkiajighmhdoaa
