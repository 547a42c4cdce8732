/-
  versionOf, walked, versions 31 to 40: all that it lays in memory. No condition.
-/
import Derived.Test.YthkiajighmhdoaaQWV
namespace Go.Proofs.Ythkiajighmhdoaa
open Go.RowKit Go.Qz Go.Qz.QW
set_option linter.unusedVariables false

set_option maxRecDepth 100000 in
set_option maxHeartbeats 16000000 in
theorem verAt31 (w : World) : Calls Try.prog 42 #[.int .i64 31] w (VerGot 31 w) := by
  go_enter Try.func42, Try.ntmps42
  go_wp2_with fail
  refine (newVersionV 31 w.heap.size _ _ (by decide) (by decide) (by decide) (VerBlk.mk' (by kernel_rfl)).1).mono ?_
  rintro e w1 ⟨p, rfl, hA, hb⟩
  have HA := Lib.hid hA
  have HB := Lib.hid hb
  clear hA hb
  go_wp2_with fail
  go_ret
  exact ⟨p, rfl, HA.out, ((VerBlk.mk' (n := 31) (by kernel_rfl)).2).trans (HB.out.mono (by simp; omega))⟩

set_option maxRecDepth 100000 in
set_option maxHeartbeats 16000000 in
theorem verAt32 (w : World) : Calls Try.prog 42 #[.int .i64 32] w (VerGot 32 w) := by
  go_enter Try.func42, Try.ntmps42
  go_wp2_with fail
  refine (newVersionV 32 w.heap.size _ _ (by decide) (by decide) (by decide) (VerBlk.mk' (by kernel_rfl)).1).mono ?_
  rintro e w1 ⟨p, rfl, hA, hb⟩
  have HA := Lib.hid hA
  have HB := Lib.hid hb
  clear hA hb
  go_wp2_with fail
  go_ret
  exact ⟨p, rfl, HA.out, ((VerBlk.mk' (n := 32) (by kernel_rfl)).2).trans (HB.out.mono (by simp; omega))⟩

set_option maxRecDepth 100000 in
set_option maxHeartbeats 16000000 in
theorem verAt33 (w : World) : Calls Try.prog 42 #[.int .i64 33] w (VerGot 33 w) := by
  go_enter Try.func42, Try.ntmps42
  go_wp2_with fail
  refine (newVersionV 33 w.heap.size _ _ (by decide) (by decide) (by decide) (VerBlk.mk' (by kernel_rfl)).1).mono ?_
  rintro e w1 ⟨p, rfl, hA, hb⟩
  have HA := Lib.hid hA
  have HB := Lib.hid hb
  clear hA hb
  go_wp2_with fail
  go_ret
  exact ⟨p, rfl, HA.out, ((VerBlk.mk' (n := 33) (by kernel_rfl)).2).trans (HB.out.mono (by simp; omega))⟩

set_option maxRecDepth 100000 in
set_option maxHeartbeats 16000000 in
theorem verAt34 (w : World) : Calls Try.prog 42 #[.int .i64 34] w (VerGot 34 w) := by
  go_enter Try.func42, Try.ntmps42
  go_wp2_with fail
  refine (newVersionV 34 w.heap.size _ _ (by decide) (by decide) (by decide) (VerBlk.mk' (by kernel_rfl)).1).mono ?_
  rintro e w1 ⟨p, rfl, hA, hb⟩
  have HA := Lib.hid hA
  have HB := Lib.hid hb
  clear hA hb
  go_wp2_with fail
  go_ret
  exact ⟨p, rfl, HA.out, ((VerBlk.mk' (n := 34) (by kernel_rfl)).2).trans (HB.out.mono (by simp; omega))⟩

set_option maxRecDepth 100000 in
set_option maxHeartbeats 16000000 in
theorem verAt35 (w : World) : Calls Try.prog 42 #[.int .i64 35] w (VerGot 35 w) := by
  go_enter Try.func42, Try.ntmps42
  go_wp2_with fail
  refine (newVersionV 35 w.heap.size _ _ (by decide) (by decide) (by decide) (VerBlk.mk' (by kernel_rfl)).1).mono ?_
  rintro e w1 ⟨p, rfl, hA, hb⟩
  have HA := Lib.hid hA
  have HB := Lib.hid hb
  clear hA hb
  go_wp2_with fail
  go_ret
  exact ⟨p, rfl, HA.out, ((VerBlk.mk' (n := 35) (by kernel_rfl)).2).trans (HB.out.mono (by simp; omega))⟩

set_option maxRecDepth 100000 in
set_option maxHeartbeats 16000000 in
theorem verAt36 (w : World) : Calls Try.prog 42 #[.int .i64 36] w (VerGot 36 w) := by
  go_enter Try.func42, Try.ntmps42
  go_wp2_with fail
  refine (newVersionV 36 w.heap.size _ _ (by decide) (by decide) (by decide) (VerBlk.mk' (by kernel_rfl)).1).mono ?_
  rintro e w1 ⟨p, rfl, hA, hb⟩
  have HA := Lib.hid hA
  have HB := Lib.hid hb
  clear hA hb
  go_wp2_with fail
  go_ret
  exact ⟨p, rfl, HA.out, ((VerBlk.mk' (n := 36) (by kernel_rfl)).2).trans (HB.out.mono (by simp; omega))⟩

set_option maxRecDepth 100000 in
set_option maxHeartbeats 16000000 in
theorem verAt37 (w : World) : Calls Try.prog 42 #[.int .i64 37] w (VerGot 37 w) := by
  go_enter Try.func42, Try.ntmps42
  go_wp2_with fail
  refine (newVersionV 37 w.heap.size _ _ (by decide) (by decide) (by decide) (VerBlk.mk' (by kernel_rfl)).1).mono ?_
  rintro e w1 ⟨p, rfl, hA, hb⟩
  have HA := Lib.hid hA
  have HB := Lib.hid hb
  clear hA hb
  go_wp2_with fail
  go_ret
  exact ⟨p, rfl, HA.out, ((VerBlk.mk' (n := 37) (by kernel_rfl)).2).trans (HB.out.mono (by simp; omega))⟩

set_option maxRecDepth 100000 in
set_option maxHeartbeats 16000000 in
theorem verAt38 (w : World) : Calls Try.prog 42 #[.int .i64 38] w (VerGot 38 w) := by
  go_enter Try.func42, Try.ntmps42
  go_wp2_with fail
  refine (newVersionV 38 w.heap.size _ _ (by decide) (by decide) (by decide) (VerBlk.mk' (by kernel_rfl)).1).mono ?_
  rintro e w1 ⟨p, rfl, hA, hb⟩
  have HA := Lib.hid hA
  have HB := Lib.hid hb
  clear hA hb
  go_wp2_with fail
  go_ret
  exact ⟨p, rfl, HA.out, ((VerBlk.mk' (n := 38) (by kernel_rfl)).2).trans (HB.out.mono (by simp; omega))⟩

set_option maxRecDepth 100000 in
set_option maxHeartbeats 16000000 in
theorem verAt39 (w : World) : Calls Try.prog 42 #[.int .i64 39] w (VerGot 39 w) := by
  go_enter Try.func42, Try.ntmps42
  go_wp2_with fail
  refine (newVersionV 39 w.heap.size _ _ (by decide) (by decide) (by decide) (VerBlk.mk' (by kernel_rfl)).1).mono ?_
  rintro e w1 ⟨p, rfl, hA, hb⟩
  have HA := Lib.hid hA
  have HB := Lib.hid hb
  clear hA hb
  go_wp2_with fail
  go_ret
  exact ⟨p, rfl, HA.out, ((VerBlk.mk' (n := 39) (by kernel_rfl)).2).trans (HB.out.mono (by simp; omega))⟩

set_option maxRecDepth 100000 in
set_option maxHeartbeats 16000000 in
theorem verAt40 (w : World) : Calls Try.prog 42 #[.int .i64 40] w (VerGot 40 w) := by
  go_enter Try.func42, Try.ntmps42
  go_wp2_with fail
  refine (newVersionV 40 w.heap.size _ _ (by decide) (by decide) (by decide) (VerBlk.mk' (by kernel_rfl)).1).mono ?_
  rintro e w1 ⟨p, rfl, hA, hb⟩
  have HA := Lib.hid hA
  have HB := Lib.hid hb
  clear hA hb
  go_wp2_with fail
  go_ret
  exact ⟨p, rfl, HA.out, ((VerBlk.mk' (n := 40) (by kernel_rfl)).2).trans (HB.out.mono (by simp; omega))⟩

end Go.Proofs.Ythkiajighmhdoaa
