/-
  versionOf, walked, versions 1 to 10: it tells the version. No condition.
-/
import Derived.Test.YtpeipolknphjhaaQV
namespace Go.Proofs.Ytpeipolknphjhaa
open Go.RowKit Go.Qz
set_option linter.unusedVariables false

set_option maxRecDepth 100000 in
set_option maxHeartbeats 16000000 in
theorem versionOf1 (w : World) : Calls Try.prog 60 #[.int .i64 1] w (VersionIs 1 w) := by
  go_enter Try.func60, Try.ntmps60
  go_wp2_with fail
  refine (newVersion 1 _ _ _ _ _ (w.heap.size + 1) 1 7 (fun j => 1) (fun j => 19) _ (by decide) (by decide) (by intro j; decide) (by intro j; decide) (by decide) ?hb ?he ?h0 ?h1 ?hl).mono ?_
  case hb => simp
  case he => simp; try omega
  case h0 => go_simp
  case h1 => go_simp
  case hl =>
    intro j hj
    have h : j = 0 := by omega
    subst h <;> (refine ⟨?_, ?_⟩ <;> go_simp)
  rintro e w1 ⟨p, rfl, hA, hb, hp⟩
  have HA := Lib.hid hA
  have HB := Lib.hid hb
  clear hA hb
  go_wp2_with fail
  go_ret
  exact VersionIs.mk HA.out ((ball (ball (ball (ball (ball (ball (Below.refl _ _) _) _) _) _) _) _).trans (HB.out.mono (by simp; omega)))

set_option maxRecDepth 100000 in
set_option maxHeartbeats 16000000 in
theorem versionOf2 (w : World) : Calls Try.prog 60 #[.int .i64 2] w (VersionIs 2 w) := by
  go_enter Try.func60, Try.ntmps60
  go_wp2_with fail
  refine (newVersion 2 _ _ _ _ _ (w.heap.size + 1) 1 10 (fun j => 1) (fun j => 34) _ (by decide) (by decide) (by intro j; decide) (by intro j; decide) (by decide) ?hb ?he ?h0 ?h1 ?hl).mono ?_
  case hb => simp
  case he => simp; try omega
  case h0 => go_simp
  case h1 => go_simp
  case hl =>
    intro j hj
    have h : j = 0 := by omega
    subst h <;> (refine ⟨?_, ?_⟩ <;> go_simp)
  rintro e w1 ⟨p, rfl, hA, hb, hp⟩
  have HA := Lib.hid hA
  have HB := Lib.hid hb
  clear hA hb
  go_wp2_with fail
  go_ret
  exact VersionIs.mk HA.out ((ball (ball (ball (ball (ball (ball (Below.refl _ _) _) _) _) _) _) _).trans (HB.out.mono (by simp; omega)))

set_option maxRecDepth 100000 in
set_option maxHeartbeats 16000000 in
theorem versionOf3 (w : World) : Calls Try.prog 60 #[.int .i64 3] w (VersionIs 3 w) := by
  go_enter Try.func60, Try.ntmps60
  go_wp2_with fail
  refine (newVersion 3 _ _ _ _ _ (w.heap.size + 1) 1 15 (fun j => 1) (fun j => 55) _ (by decide) (by decide) (by intro j; decide) (by intro j; decide) (by decide) ?hb ?he ?h0 ?h1 ?hl).mono ?_
  case hb => simp
  case he => simp; try omega
  case h0 => go_simp
  case h1 => go_simp
  case hl =>
    intro j hj
    have h : j = 0 := by omega
    subst h <;> (refine ⟨?_, ?_⟩ <;> go_simp)
  rintro e w1 ⟨p, rfl, hA, hb, hp⟩
  have HA := Lib.hid hA
  have HB := Lib.hid hb
  clear hA hb
  go_wp2_with fail
  go_ret
  exact VersionIs.mk HA.out ((ball (ball (ball (ball (ball (ball (Below.refl _ _) _) _) _) _) _) _).trans (HB.out.mono (by simp; omega)))

set_option maxRecDepth 100000 in
set_option maxHeartbeats 16000000 in
theorem versionOf4 (w : World) : Calls Try.prog 60 #[.int .i64 4] w (VersionIs 4 w) := by
  go_enter Try.func60, Try.ntmps60
  go_wp2_with fail
  refine (newVersion 4 _ _ _ _ _ (w.heap.size + 1) 1 20 (fun j => 1) (fun j => 80) _ (by decide) (by decide) (by intro j; decide) (by intro j; decide) (by decide) ?hb ?he ?h0 ?h1 ?hl).mono ?_
  case hb => simp
  case he => simp; try omega
  case h0 => go_simp
  case h1 => go_simp
  case hl =>
    intro j hj
    have h : j = 0 := by omega
    subst h <;> (refine ⟨?_, ?_⟩ <;> go_simp)
  rintro e w1 ⟨p, rfl, hA, hb, hp⟩
  have HA := Lib.hid hA
  have HB := Lib.hid hb
  clear hA hb
  go_wp2_with fail
  go_ret
  exact VersionIs.mk HA.out ((ball (ball (ball (ball (ball (ball (Below.refl _ _) _) _) _) _) _) _).trans (HB.out.mono (by simp; omega)))

set_option maxRecDepth 100000 in
set_option maxHeartbeats 16000000 in
theorem versionOf5 (w : World) : Calls Try.prog 60 #[.int .i64 5] w (VersionIs 5 w) := by
  go_enter Try.func60, Try.ntmps60
  go_wp2_with fail
  refine (newVersion 5 _ _ _ _ _ (w.heap.size + 1) 1 26 (fun j => 1) (fun j => 108) _ (by decide) (by decide) (by intro j; decide) (by intro j; decide) (by decide) ?hb ?he ?h0 ?h1 ?hl).mono ?_
  case hb => simp
  case he => simp; try omega
  case h0 => go_simp
  case h1 => go_simp
  case hl =>
    intro j hj
    have h : j = 0 := by omega
    subst h <;> (refine ⟨?_, ?_⟩ <;> go_simp)
  rintro e w1 ⟨p, rfl, hA, hb, hp⟩
  have HA := Lib.hid hA
  have HB := Lib.hid hb
  clear hA hb
  go_wp2_with fail
  go_ret
  exact VersionIs.mk HA.out ((ball (ball (ball (ball (ball (ball (Below.refl _ _) _) _) _) _) _) _).trans (HB.out.mono (by simp; omega)))

set_option maxRecDepth 100000 in
set_option maxHeartbeats 16000000 in
theorem versionOf6 (w : World) : Calls Try.prog 60 #[.int .i64 6] w (VersionIs 6 w) := by
  go_enter Try.func60, Try.ntmps60
  go_wp2_with fail
  refine (newVersion 6 _ _ _ _ _ (w.heap.size + 1) 1 18 (fun j => 2) (fun j => 68) _ (by decide) (by decide) (by intro j; decide) (by intro j; decide) (by decide) ?hb ?he ?h0 ?h1 ?hl).mono ?_
  case hb => simp
  case he => simp; try omega
  case h0 => go_simp
  case h1 => go_simp
  case hl =>
    intro j hj
    have h : j = 0 := by omega
    subst h <;> (refine ⟨?_, ?_⟩ <;> go_simp)
  rintro e w1 ⟨p, rfl, hA, hb, hp⟩
  have HA := Lib.hid hA
  have HB := Lib.hid hb
  clear hA hb
  go_wp2_with fail
  go_ret
  exact VersionIs.mk HA.out ((ball (ball (ball (ball (ball (ball (Below.refl _ _) _) _) _) _) _) _).trans (HB.out.mono (by simp; omega)))

set_option maxRecDepth 100000 in
set_option maxHeartbeats 16000000 in
theorem versionOf7 (w : World) : Calls Try.prog 60 #[.int .i64 7] w (VersionIs 7 w) := by
  go_enter Try.func60, Try.ntmps60
  go_wp2_with fail
  refine (newVersion 7 _ _ _ _ _ (w.heap.size + 1) 1 20 (fun j => 2) (fun j => 78) _ (by decide) (by decide) (by intro j; decide) (by intro j; decide) (by decide) ?hb ?he ?h0 ?h1 ?hl).mono ?_
  case hb => simp
  case he => simp; try omega
  case h0 => go_simp
  case h1 => go_simp
  case hl =>
    intro j hj
    have h : j = 0 := by omega
    subst h <;> (refine ⟨?_, ?_⟩ <;> go_simp)
  rintro e w1 ⟨p, rfl, hA, hb, hp⟩
  have HA := Lib.hid hA
  have HB := Lib.hid hb
  clear hA hb
  go_wp2_with fail
  go_ret
  exact VersionIs.mk HA.out ((ball (ball (ball (ball (ball (ball (Below.refl _ _) _) _) _) _) _) _).trans (HB.out.mono (by simp; omega)))

set_option maxRecDepth 100000 in
set_option maxHeartbeats 16000000 in
theorem versionOf8 (w : World) : Calls Try.prog 60 #[.int .i64 8] w (VersionIs 8 w) := by
  go_enter Try.func60, Try.ntmps60
  go_wp2_with fail
  refine (newVersion 8 _ _ _ _ _ (w.heap.size + 1) 1 24 (fun j => 2) (fun j => 97) _ (by decide) (by decide) (by intro j; decide) (by intro j; decide) (by decide) ?hb ?he ?h0 ?h1 ?hl).mono ?_
  case hb => simp
  case he => simp; try omega
  case h0 => go_simp
  case h1 => go_simp
  case hl =>
    intro j hj
    have h : j = 0 := by omega
    subst h <;> (refine ⟨?_, ?_⟩ <;> go_simp)
  rintro e w1 ⟨p, rfl, hA, hb, hp⟩
  have HA := Lib.hid hA
  have HB := Lib.hid hb
  clear hA hb
  go_wp2_with fail
  go_ret
  exact VersionIs.mk HA.out ((ball (ball (ball (ball (ball (ball (Below.refl _ _) _) _) _) _) _) _).trans (HB.out.mono (by simp; omega)))

set_option maxRecDepth 100000 in
set_option maxHeartbeats 16000000 in
theorem versionOf9 (w : World) : Calls Try.prog 60 #[.int .i64 9] w (VersionIs 9 w) := by
  go_enter Try.func60, Try.ntmps60
  go_wp2_with fail
  refine (newVersion 9 _ _ _ _ _ (w.heap.size + 1) 1 30 (fun j => 2) (fun j => 116) _ (by decide) (by decide) (by intro j; decide) (by intro j; decide) (by decide) ?hb ?he ?h0 ?h1 ?hl).mono ?_
  case hb => simp
  case he => simp; try omega
  case h0 => go_simp
  case h1 => go_simp
  case hl =>
    intro j hj
    have h : j = 0 := by omega
    subst h <;> (refine ⟨?_, ?_⟩ <;> go_simp)
  rintro e w1 ⟨p, rfl, hA, hb, hp⟩
  have HA := Lib.hid hA
  have HB := Lib.hid hb
  clear hA hb
  go_wp2_with fail
  go_ret
  exact VersionIs.mk HA.out ((ball (ball (ball (ball (ball (ball (Below.refl _ _) _) _) _) _) _) _).trans (HB.out.mono (by simp; omega)))

set_option maxRecDepth 100000 in
set_option maxHeartbeats 16000000 in
theorem versionOf10 (w : World) : Calls Try.prog 60 #[.int .i64 10] w (VersionIs 10 w) := by
  go_enter Try.func60, Try.ntmps60
  go_wp2_with fail
  refine (newVersion 10 _ _ _ _ _ (w.heap.size + 1) 2 18 (fun j => if j = 0 then 2 else 2) (fun j => if j = 0 then 68 else 69) _ (by decide) (by decide) (by intro j; split <;> decide) (by intro j; split <;> decide) (by decide) ?hb ?he ?h0 ?h1 ?hl).mono ?_
  case hb => simp
  case he => simp; try omega
  case h0 => go_simp
  case h1 => go_simp
  case hl =>
    intro j hj
    have h : j = 0 ∨ j = 1 := by omega
    rcases h with rfl | rfl <;> (refine ⟨?_, ?_⟩ <;> go_simp)
  rintro e w1 ⟨p, rfl, hA, hb, hp⟩
  have HA := Lib.hid hA
  have HB := Lib.hid hb
  clear hA hb
  go_wp2_with fail
  go_ret
  exact VersionIs.mk HA.out ((ball (ball (ball (ball (ball (ball (Below.refl _ _) _) _) _) _) _) _).trans (HB.out.mono (by simp; omega)))

end Go.Proofs.Ytpeipolknphjhaa
