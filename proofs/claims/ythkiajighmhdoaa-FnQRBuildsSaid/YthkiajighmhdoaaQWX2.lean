/-
  versionOf, walked, versions 11 to 20: all that it lays in memory. No condition.
-/
import Derived.Test.YthkiajighmhdoaaQWV
namespace Go.Proofs.Ythkiajighmhdoaa
open Go.RowKit Go.Qz Go.Qz.QW
set_option linter.unusedVariables false

set_option maxRecDepth 100000 in
set_option maxHeartbeats 16000000 in
theorem verAt11 (w : World) : Calls Try.prog 42 #[.int .i64 11] w (VerGot 11 w) := by
  go_enter Try.func42, Try.ntmps42
  go_wp2_with fail
  refine (newVersionV 11 w.heap.size _ _ (by decide) (by decide) (by decide) (VerBlk.mk' (by kernel_rfl)).1).mono ?_
  rintro e w1 ⟨p, rfl, hA, hb⟩
  have HA := Lib.hid hA
  have HB := Lib.hid hb
  clear hA hb
  go_wp2_with fail
  go_ret
  exact ⟨p, rfl, HA.out, ((VerBlk.mk' (n := 11) (by kernel_rfl)).2).trans (HB.out.mono (by simp; omega))⟩

set_option maxRecDepth 100000 in
set_option maxHeartbeats 16000000 in
theorem verAt12 (w : World) : Calls Try.prog 42 #[.int .i64 12] w (VerGot 12 w) := by
  go_enter Try.func42, Try.ntmps42
  go_wp2_with fail
  refine (newVersionV 12 w.heap.size _ _ (by decide) (by decide) (by decide) (VerBlk.mk' (by kernel_rfl)).1).mono ?_
  rintro e w1 ⟨p, rfl, hA, hb⟩
  have HA := Lib.hid hA
  have HB := Lib.hid hb
  clear hA hb
  go_wp2_with fail
  go_ret
  exact ⟨p, rfl, HA.out, ((VerBlk.mk' (n := 12) (by kernel_rfl)).2).trans (HB.out.mono (by simp; omega))⟩

set_option maxRecDepth 100000 in
set_option maxHeartbeats 16000000 in
theorem verAt13 (w : World) : Calls Try.prog 42 #[.int .i64 13] w (VerGot 13 w) := by
  go_enter Try.func42, Try.ntmps42
  go_wp2_with fail
  refine (newVersionV 13 w.heap.size _ _ (by decide) (by decide) (by decide) (VerBlk.mk' (by kernel_rfl)).1).mono ?_
  rintro e w1 ⟨p, rfl, hA, hb⟩
  have HA := Lib.hid hA
  have HB := Lib.hid hb
  clear hA hb
  go_wp2_with fail
  go_ret
  exact ⟨p, rfl, HA.out, ((VerBlk.mk' (n := 13) (by kernel_rfl)).2).trans (HB.out.mono (by simp; omega))⟩

set_option maxRecDepth 100000 in
set_option maxHeartbeats 16000000 in
theorem verAt14 (w : World) : Calls Try.prog 42 #[.int .i64 14] w (VerGot 14 w) := by
  go_enter Try.func42, Try.ntmps42
  go_wp2_with fail
  refine (newVersionV 14 w.heap.size _ _ (by decide) (by decide) (by decide) (VerBlk.mk' (by kernel_rfl)).1).mono ?_
  rintro e w1 ⟨p, rfl, hA, hb⟩
  have HA := Lib.hid hA
  have HB := Lib.hid hb
  clear hA hb
  go_wp2_with fail
  go_ret
  exact ⟨p, rfl, HA.out, ((VerBlk.mk' (n := 14) (by kernel_rfl)).2).trans (HB.out.mono (by simp; omega))⟩

set_option maxRecDepth 100000 in
set_option maxHeartbeats 16000000 in
theorem verAt15 (w : World) : Calls Try.prog 42 #[.int .i64 15] w (VerGot 15 w) := by
  go_enter Try.func42, Try.ntmps42
  go_wp2_with fail
  refine (newVersionV 15 w.heap.size _ _ (by decide) (by decide) (by decide) (VerBlk.mk' (by kernel_rfl)).1).mono ?_
  rintro e w1 ⟨p, rfl, hA, hb⟩
  have HA := Lib.hid hA
  have HB := Lib.hid hb
  clear hA hb
  go_wp2_with fail
  go_ret
  exact ⟨p, rfl, HA.out, ((VerBlk.mk' (n := 15) (by kernel_rfl)).2).trans (HB.out.mono (by simp; omega))⟩

set_option maxRecDepth 100000 in
set_option maxHeartbeats 16000000 in
theorem verAt16 (w : World) : Calls Try.prog 42 #[.int .i64 16] w (VerGot 16 w) := by
  go_enter Try.func42, Try.ntmps42
  go_wp2_with fail
  refine (newVersionV 16 w.heap.size _ _ (by decide) (by decide) (by decide) (VerBlk.mk' (by kernel_rfl)).1).mono ?_
  rintro e w1 ⟨p, rfl, hA, hb⟩
  have HA := Lib.hid hA
  have HB := Lib.hid hb
  clear hA hb
  go_wp2_with fail
  go_ret
  exact ⟨p, rfl, HA.out, ((VerBlk.mk' (n := 16) (by kernel_rfl)).2).trans (HB.out.mono (by simp; omega))⟩

set_option maxRecDepth 100000 in
set_option maxHeartbeats 16000000 in
theorem verAt17 (w : World) : Calls Try.prog 42 #[.int .i64 17] w (VerGot 17 w) := by
  go_enter Try.func42, Try.ntmps42
  go_wp2_with fail
  refine (newVersionV 17 w.heap.size _ _ (by decide) (by decide) (by decide) (VerBlk.mk' (by kernel_rfl)).1).mono ?_
  rintro e w1 ⟨p, rfl, hA, hb⟩
  have HA := Lib.hid hA
  have HB := Lib.hid hb
  clear hA hb
  go_wp2_with fail
  go_ret
  exact ⟨p, rfl, HA.out, ((VerBlk.mk' (n := 17) (by kernel_rfl)).2).trans (HB.out.mono (by simp; omega))⟩

set_option maxRecDepth 100000 in
set_option maxHeartbeats 16000000 in
theorem verAt18 (w : World) : Calls Try.prog 42 #[.int .i64 18] w (VerGot 18 w) := by
  go_enter Try.func42, Try.ntmps42
  go_wp2_with fail
  refine (newVersionV 18 w.heap.size _ _ (by decide) (by decide) (by decide) (VerBlk.mk' (by kernel_rfl)).1).mono ?_
  rintro e w1 ⟨p, rfl, hA, hb⟩
  have HA := Lib.hid hA
  have HB := Lib.hid hb
  clear hA hb
  go_wp2_with fail
  go_ret
  exact ⟨p, rfl, HA.out, ((VerBlk.mk' (n := 18) (by kernel_rfl)).2).trans (HB.out.mono (by simp; omega))⟩

set_option maxRecDepth 100000 in
set_option maxHeartbeats 16000000 in
theorem verAt19 (w : World) : Calls Try.prog 42 #[.int .i64 19] w (VerGot 19 w) := by
  go_enter Try.func42, Try.ntmps42
  go_wp2_with fail
  refine (newVersionV 19 w.heap.size _ _ (by decide) (by decide) (by decide) (VerBlk.mk' (by kernel_rfl)).1).mono ?_
  rintro e w1 ⟨p, rfl, hA, hb⟩
  have HA := Lib.hid hA
  have HB := Lib.hid hb
  clear hA hb
  go_wp2_with fail
  go_ret
  exact ⟨p, rfl, HA.out, ((VerBlk.mk' (n := 19) (by kernel_rfl)).2).trans (HB.out.mono (by simp; omega))⟩

set_option maxRecDepth 100000 in
set_option maxHeartbeats 16000000 in
theorem verAt20 (w : World) : Calls Try.prog 42 #[.int .i64 20] w (VerGot 20 w) := by
  go_enter Try.func42, Try.ntmps42
  go_wp2_with fail
  refine (newVersionV 20 w.heap.size _ _ (by decide) (by decide) (by decide) (VerBlk.mk' (by kernel_rfl)).1).mono ?_
  rintro e w1 ⟨p, rfl, hA, hb⟩
  have HA := Lib.hid hA
  have HB := Lib.hid hb
  clear hA hb
  go_wp2_with fail
  go_ret
  exact ⟨p, rfl, HA.out, ((VerBlk.mk' (n := 20) (by kernel_rfl)).2).trans (HB.out.mono (by simp; omega))⟩

end Go.Proofs.Ythkiajighmhdoaa
