/-
  versionOf, walked, versions 21 to 30: all that it lays in memory. No condition.
-/
import Derived.Test.YthkiajighmhdoaaQWV
namespace Go.Proofs.Ythkiajighmhdoaa
open Go.RowKit Go.Qz Go.Qz.QW
set_option linter.unusedVariables false

set_option maxRecDepth 100000 in
set_option maxHeartbeats 16000000 in
theorem verAt21 (w : World) : Calls Try.prog 42 #[.int .i64 21] w (VerGot 21 w) := by
  go_enter Try.func42, Try.ntmps42
  go_wp2_with fail
  refine (newVersionV 21 w.heap.size _ _ (by decide) (by decide) (by decide) (VerBlk.mk' (by kernel_rfl)).1).mono ?_
  rintro e w1 ⟨p, rfl, hA, hb⟩
  have HA := Lib.hid hA
  have HB := Lib.hid hb
  clear hA hb
  go_wp2_with fail
  go_ret
  exact ⟨p, rfl, HA.out, ((VerBlk.mk' (n := 21) (by kernel_rfl)).2).trans (HB.out.mono (by simp; omega))⟩

set_option maxRecDepth 100000 in
set_option maxHeartbeats 16000000 in
theorem verAt22 (w : World) : Calls Try.prog 42 #[.int .i64 22] w (VerGot 22 w) := by
  go_enter Try.func42, Try.ntmps42
  go_wp2_with fail
  refine (newVersionV 22 w.heap.size _ _ (by decide) (by decide) (by decide) (VerBlk.mk' (by kernel_rfl)).1).mono ?_
  rintro e w1 ⟨p, rfl, hA, hb⟩
  have HA := Lib.hid hA
  have HB := Lib.hid hb
  clear hA hb
  go_wp2_with fail
  go_ret
  exact ⟨p, rfl, HA.out, ((VerBlk.mk' (n := 22) (by kernel_rfl)).2).trans (HB.out.mono (by simp; omega))⟩

set_option maxRecDepth 100000 in
set_option maxHeartbeats 16000000 in
theorem verAt23 (w : World) : Calls Try.prog 42 #[.int .i64 23] w (VerGot 23 w) := by
  go_enter Try.func42, Try.ntmps42
  go_wp2_with fail
  refine (newVersionV 23 w.heap.size _ _ (by decide) (by decide) (by decide) (VerBlk.mk' (by kernel_rfl)).1).mono ?_
  rintro e w1 ⟨p, rfl, hA, hb⟩
  have HA := Lib.hid hA
  have HB := Lib.hid hb
  clear hA hb
  go_wp2_with fail
  go_ret
  exact ⟨p, rfl, HA.out, ((VerBlk.mk' (n := 23) (by kernel_rfl)).2).trans (HB.out.mono (by simp; omega))⟩

set_option maxRecDepth 100000 in
set_option maxHeartbeats 16000000 in
theorem verAt24 (w : World) : Calls Try.prog 42 #[.int .i64 24] w (VerGot 24 w) := by
  go_enter Try.func42, Try.ntmps42
  go_wp2_with fail
  refine (newVersionV 24 w.heap.size _ _ (by decide) (by decide) (by decide) (VerBlk.mk' (by kernel_rfl)).1).mono ?_
  rintro e w1 ⟨p, rfl, hA, hb⟩
  have HA := Lib.hid hA
  have HB := Lib.hid hb
  clear hA hb
  go_wp2_with fail
  go_ret
  exact ⟨p, rfl, HA.out, ((VerBlk.mk' (n := 24) (by kernel_rfl)).2).trans (HB.out.mono (by simp; omega))⟩

set_option maxRecDepth 100000 in
set_option maxHeartbeats 16000000 in
theorem verAt25 (w : World) : Calls Try.prog 42 #[.int .i64 25] w (VerGot 25 w) := by
  go_enter Try.func42, Try.ntmps42
  go_wp2_with fail
  refine (newVersionV 25 w.heap.size _ _ (by decide) (by decide) (by decide) (VerBlk.mk' (by kernel_rfl)).1).mono ?_
  rintro e w1 ⟨p, rfl, hA, hb⟩
  have HA := Lib.hid hA
  have HB := Lib.hid hb
  clear hA hb
  go_wp2_with fail
  go_ret
  exact ⟨p, rfl, HA.out, ((VerBlk.mk' (n := 25) (by kernel_rfl)).2).trans (HB.out.mono (by simp; omega))⟩

set_option maxRecDepth 100000 in
set_option maxHeartbeats 16000000 in
theorem verAt26 (w : World) : Calls Try.prog 42 #[.int .i64 26] w (VerGot 26 w) := by
  go_enter Try.func42, Try.ntmps42
  go_wp2_with fail
  refine (newVersionV 26 w.heap.size _ _ (by decide) (by decide) (by decide) (VerBlk.mk' (by kernel_rfl)).1).mono ?_
  rintro e w1 ⟨p, rfl, hA, hb⟩
  have HA := Lib.hid hA
  have HB := Lib.hid hb
  clear hA hb
  go_wp2_with fail
  go_ret
  exact ⟨p, rfl, HA.out, ((VerBlk.mk' (n := 26) (by kernel_rfl)).2).trans (HB.out.mono (by simp; omega))⟩

set_option maxRecDepth 100000 in
set_option maxHeartbeats 16000000 in
theorem verAt27 (w : World) : Calls Try.prog 42 #[.int .i64 27] w (VerGot 27 w) := by
  go_enter Try.func42, Try.ntmps42
  go_wp2_with fail
  refine (newVersionV 27 w.heap.size _ _ (by decide) (by decide) (by decide) (VerBlk.mk' (by kernel_rfl)).1).mono ?_
  rintro e w1 ⟨p, rfl, hA, hb⟩
  have HA := Lib.hid hA
  have HB := Lib.hid hb
  clear hA hb
  go_wp2_with fail
  go_ret
  exact ⟨p, rfl, HA.out, ((VerBlk.mk' (n := 27) (by kernel_rfl)).2).trans (HB.out.mono (by simp; omega))⟩

set_option maxRecDepth 100000 in
set_option maxHeartbeats 16000000 in
theorem verAt28 (w : World) : Calls Try.prog 42 #[.int .i64 28] w (VerGot 28 w) := by
  go_enter Try.func42, Try.ntmps42
  go_wp2_with fail
  refine (newVersionV 28 w.heap.size _ _ (by decide) (by decide) (by decide) (VerBlk.mk' (by kernel_rfl)).1).mono ?_
  rintro e w1 ⟨p, rfl, hA, hb⟩
  have HA := Lib.hid hA
  have HB := Lib.hid hb
  clear hA hb
  go_wp2_with fail
  go_ret
  exact ⟨p, rfl, HA.out, ((VerBlk.mk' (n := 28) (by kernel_rfl)).2).trans (HB.out.mono (by simp; omega))⟩

set_option maxRecDepth 100000 in
set_option maxHeartbeats 16000000 in
theorem verAt29 (w : World) : Calls Try.prog 42 #[.int .i64 29] w (VerGot 29 w) := by
  go_enter Try.func42, Try.ntmps42
  go_wp2_with fail
  refine (newVersionV 29 w.heap.size _ _ (by decide) (by decide) (by decide) (VerBlk.mk' (by kernel_rfl)).1).mono ?_
  rintro e w1 ⟨p, rfl, hA, hb⟩
  have HA := Lib.hid hA
  have HB := Lib.hid hb
  clear hA hb
  go_wp2_with fail
  go_ret
  exact ⟨p, rfl, HA.out, ((VerBlk.mk' (n := 29) (by kernel_rfl)).2).trans (HB.out.mono (by simp; omega))⟩

set_option maxRecDepth 100000 in
set_option maxHeartbeats 16000000 in
theorem verAt30 (w : World) : Calls Try.prog 42 #[.int .i64 30] w (VerGot 30 w) := by
  go_enter Try.func42, Try.ntmps42
  go_wp2_with fail
  refine (newVersionV 30 w.heap.size _ _ (by decide) (by decide) (by decide) (VerBlk.mk' (by kernel_rfl)).1).mono ?_
  rintro e w1 ⟨p, rfl, hA, hb⟩
  have HA := Lib.hid hA
  have HB := Lib.hid hb
  clear hA hb
  go_wp2_with fail
  go_ret
  exact ⟨p, rfl, HA.out, ((VerBlk.mk' (n := 30) (by kernel_rfl)).2).trans (HB.out.mono (by simp; omega))⟩

end Go.Proofs.Ythkiajighmhdoaa
