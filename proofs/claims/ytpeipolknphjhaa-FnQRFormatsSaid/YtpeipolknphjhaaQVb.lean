/-
  versionOf, walked, versions 11 to 20: it tells the version. No condition.
-/
import Derived.Test.YtpeipolknphjhaaQV
namespace Go.Proofs.Ytpeipolknphjhaa
open Go.RowKit Go.Qz
set_option linter.unusedVariables false

set_option maxRecDepth 100000 in
set_option maxHeartbeats 16000000 in
theorem versionOf11 (w : World) : Calls Try.prog 60 #[.int .i64 11] w (VersionIs 11 w) := by
  go_enter Try.func60, Try.ntmps60
  go_wp2_with fail
  refine (newVersion 11 _ _ _ _ _ (w.heap.size + 1) 1 20 (fun j => 4) (fun j => 81) _ (by decide) (by decide) (by intro j; decide) (by intro j; decide) (by decide) ?hb ?he ?h0 ?h1 ?hl).mono ?_
  case hb => simp
  case he => simp; try omega
  case h0 => go_simp
  case h1 => go_simp
  case hl =>
    intro j hj
    have h : j = 0 := by omega
    subst h <;> (refine ⟨?_, ?_⟩ <;> go_simp)
  rintro e w1 ⟨p, rfl, hA, hb, hp⟩
  have HA := Lib.hid hA
  have HB := Lib.hid hb
  clear hA hb
  go_wp2_with fail
  go_ret
  exact VersionIs.mk HA.out ((ball (ball (ball (ball (ball (ball (Below.refl _ _) _) _) _) _) _) _).trans (HB.out.mono (by simp; omega)))

set_option maxRecDepth 100000 in
set_option maxHeartbeats 16000000 in
theorem versionOf12 (w : World) : Calls Try.prog 60 #[.int .i64 12] w (VersionIs 12 w) := by
  go_enter Try.func60, Try.ntmps60
  go_wp2_with fail
  refine (newVersion 12 _ _ _ _ _ (w.heap.size + 1) 2 24 (fun j => if j = 0 then 2 else 2) (fun j => if j = 0 then 92 else 93) _ (by decide) (by decide) (by intro j; split <;> decide) (by intro j; split <;> decide) (by decide) ?hb ?he ?h0 ?h1 ?hl).mono ?_
  case hb => simp
  case he => simp; try omega
  case h0 => go_simp
  case h1 => go_simp
  case hl =>
    intro j hj
    have h : j = 0 ∨ j = 1 := by omega
    rcases h with rfl | rfl <;> (refine ⟨?_, ?_⟩ <;> go_simp)
  rintro e w1 ⟨p, rfl, hA, hb, hp⟩
  have HA := Lib.hid hA
  have HB := Lib.hid hb
  clear hA hb
  go_wp2_with fail
  go_ret
  exact VersionIs.mk HA.out ((ball (ball (ball (ball (ball (ball (Below.refl _ _) _) _) _) _) _) _).trans (HB.out.mono (by simp; omega)))

set_option maxRecDepth 100000 in
set_option maxHeartbeats 16000000 in
theorem versionOf13 (w : World) : Calls Try.prog 60 #[.int .i64 13] w (VersionIs 13 w) := by
  go_enter Try.func60, Try.ntmps60
  go_wp2_with fail
  refine (newVersion 13 _ _ _ _ _ (w.heap.size + 1) 1 26 (fun j => 4) (fun j => 107) _ (by decide) (by decide) (by intro j; decide) (by intro j; decide) (by decide) ?hb ?he ?h0 ?h1 ?hl).mono ?_
  case hb => simp
  case he => simp; try omega
  case h0 => go_simp
  case h1 => go_simp
  case hl =>
    intro j hj
    have h : j = 0 := by omega
    subst h <;> (refine ⟨?_, ?_⟩ <;> go_simp)
  rintro e w1 ⟨p, rfl, hA, hb, hp⟩
  have HA := Lib.hid hA
  have HB := Lib.hid hb
  clear hA hb
  go_wp2_with fail
  go_ret
  exact VersionIs.mk HA.out ((ball (ball (ball (ball (ball (ball (Below.refl _ _) _) _) _) _) _) _).trans (HB.out.mono (by simp; omega)))

set_option maxRecDepth 100000 in
set_option maxHeartbeats 16000000 in
theorem versionOf14 (w : World) : Calls Try.prog 60 #[.int .i64 14] w (VersionIs 14 w) := by
  go_enter Try.func60, Try.ntmps60
  go_wp2_with fail
  refine (newVersion 14 _ _ _ _ _ (w.heap.size + 1) 2 30 (fun j => if j = 0 then 3 else 1) (fun j => if j = 0 then 115 else 116) _ (by decide) (by decide) (by intro j; split <;> decide) (by intro j; split <;> decide) (by decide) ?hb ?he ?h0 ?h1 ?hl).mono ?_
  case hb => simp
  case he => simp; try omega
  case h0 => go_simp
  case h1 => go_simp
  case hl =>
    intro j hj
    have h : j = 0 ∨ j = 1 := by omega
    rcases h with rfl | rfl <;> (refine ⟨?_, ?_⟩ <;> go_simp)
  rintro e w1 ⟨p, rfl, hA, hb, hp⟩
  have HA := Lib.hid hA
  have HB := Lib.hid hb
  clear hA hb
  go_wp2_with fail
  go_ret
  exact VersionIs.mk HA.out ((ball (ball (ball (ball (ball (ball (Below.refl _ _) _) _) _) _) _) _).trans (HB.out.mono (by simp; omega)))

set_option maxRecDepth 100000 in
set_option maxHeartbeats 16000000 in
theorem versionOf15 (w : World) : Calls Try.prog 60 #[.int .i64 15] w (VersionIs 15 w) := by
  go_enter Try.func60, Try.ntmps60
  go_wp2_with fail
  refine (newVersion 15 _ _ _ _ _ (w.heap.size + 1) 2 22 (fun j => if j = 0 then 5 else 1) (fun j => if j = 0 then 87 else 88) _ (by decide) (by decide) (by intro j; split <;> decide) (by intro j; split <;> decide) (by decide) ?hb ?he ?h0 ?h1 ?hl).mono ?_
  case hb => simp
  case he => simp; try omega
  case h0 => go_simp
  case h1 => go_simp
  case hl =>
    intro j hj
    have h : j = 0 ∨ j = 1 := by omega
    rcases h with rfl | rfl <;> (refine ⟨?_, ?_⟩ <;> go_simp)
  rintro e w1 ⟨p, rfl, hA, hb, hp⟩
  have HA := Lib.hid hA
  have HB := Lib.hid hb
  clear hA hb
  go_wp2_with fail
  go_ret
  exact VersionIs.mk HA.out ((ball (ball (ball (ball (ball (ball (Below.refl _ _) _) _) _) _) _) _).trans (HB.out.mono (by simp; omega)))

set_option maxRecDepth 100000 in
set_option maxHeartbeats 16000000 in
theorem versionOf16 (w : World) : Calls Try.prog 60 #[.int .i64 16] w (VersionIs 16 w) := by
  go_enter Try.func60, Try.ntmps60
  go_wp2_with fail
  refine (newVersion 16 _ _ _ _ _ (w.heap.size + 1) 2 24 (fun j => if j = 0 then 5 else 1) (fun j => if j = 0 then 98 else 99) _ (by decide) (by decide) (by intro j; split <;> decide) (by intro j; split <;> decide) (by decide) ?hb ?he ?h0 ?h1 ?hl).mono ?_
  case hb => simp
  case he => simp; try omega
  case h0 => go_simp
  case h1 => go_simp
  case hl =>
    intro j hj
    have h : j = 0 ∨ j = 1 := by omega
    rcases h with rfl | rfl <;> (refine ⟨?_, ?_⟩ <;> go_simp)
  rintro e w1 ⟨p, rfl, hA, hb, hp⟩
  have HA := Lib.hid hA
  have HB := Lib.hid hb
  clear hA hb
  go_wp2_with fail
  go_ret
  exact VersionIs.mk HA.out ((ball (ball (ball (ball (ball (ball (Below.refl _ _) _) _) _) _) _) _).trans (HB.out.mono (by simp; omega)))

set_option maxRecDepth 100000 in
set_option maxHeartbeats 16000000 in
theorem versionOf17 (w : World) : Calls Try.prog 60 #[.int .i64 17] w (VersionIs 17 w) := by
  go_enter Try.func60, Try.ntmps60
  go_wp2_with fail
  refine (newVersion 17 _ _ _ _ _ (w.heap.size + 1) 2 28 (fun j => if j = 0 then 1 else 5) (fun j => if j = 0 then 107 else 108) _ (by decide) (by decide) (by intro j; split <;> decide) (by intro j; split <;> decide) (by decide) ?hb ?he ?h0 ?h1 ?hl).mono ?_
  case hb => simp
  case he => simp; try omega
  case h0 => go_simp
  case h1 => go_simp
  case hl =>
    intro j hj
    have h : j = 0 ∨ j = 1 := by omega
    rcases h with rfl | rfl <;> (refine ⟨?_, ?_⟩ <;> go_simp)
  rintro e w1 ⟨p, rfl, hA, hb, hp⟩
  have HA := Lib.hid hA
  have HB := Lib.hid hb
  clear hA hb
  go_wp2_with fail
  go_ret
  exact VersionIs.mk HA.out ((ball (ball (ball (ball (ball (ball (Below.refl _ _) _) _) _) _) _) _).trans (HB.out.mono (by simp; omega)))

set_option maxRecDepth 100000 in
set_option maxHeartbeats 16000000 in
theorem versionOf18 (w : World) : Calls Try.prog 60 #[.int .i64 18] w (VersionIs 18 w) := by
  go_enter Try.func60, Try.ntmps60
  go_wp2_with fail
  refine (newVersion 18 _ _ _ _ _ (w.heap.size + 1) 2 30 (fun j => if j = 0 then 5 else 1) (fun j => if j = 0 then 120 else 121) _ (by decide) (by decide) (by intro j; split <;> decide) (by intro j; split <;> decide) (by decide) ?hb ?he ?h0 ?h1 ?hl).mono ?_
  case hb => simp
  case he => simp; try omega
  case h0 => go_simp
  case h1 => go_simp
  case hl =>
    intro j hj
    have h : j = 0 ∨ j = 1 := by omega
    rcases h with rfl | rfl <;> (refine ⟨?_, ?_⟩ <;> go_simp)
  rintro e w1 ⟨p, rfl, hA, hb, hp⟩
  have HA := Lib.hid hA
  have HB := Lib.hid hb
  clear hA hb
  go_wp2_with fail
  go_ret
  exact VersionIs.mk HA.out ((ball (ball (ball (ball (ball (ball (Below.refl _ _) _) _) _) _) _) _).trans (HB.out.mono (by simp; omega)))

set_option maxRecDepth 100000 in
set_option maxHeartbeats 16000000 in
theorem versionOf19 (w : World) : Calls Try.prog 60 #[.int .i64 19] w (VersionIs 19 w) := by
  go_enter Try.func60, Try.ntmps60
  go_wp2_with fail
  refine (newVersion 19 _ _ _ _ _ (w.heap.size + 1) 2 28 (fun j => if j = 0 then 3 else 4) (fun j => if j = 0 then 113 else 114) _ (by decide) (by decide) (by intro j; split <;> decide) (by intro j; split <;> decide) (by decide) ?hb ?he ?h0 ?h1 ?hl).mono ?_
  case hb => simp
  case he => simp; try omega
  case h0 => go_simp
  case h1 => go_simp
  case hl =>
    intro j hj
    have h : j = 0 ∨ j = 1 := by omega
    rcases h with rfl | rfl <;> (refine ⟨?_, ?_⟩ <;> go_simp)
  rintro e w1 ⟨p, rfl, hA, hb, hp⟩
  have HA := Lib.hid hA
  have HB := Lib.hid hb
  clear hA hb
  go_wp2_with fail
  go_ret
  exact VersionIs.mk HA.out ((ball (ball (ball (ball (ball (ball (Below.refl _ _) _) _) _) _) _) _).trans (HB.out.mono (by simp; omega)))

set_option maxRecDepth 100000 in
set_option maxHeartbeats 16000000 in
theorem versionOf20 (w : World) : Calls Try.prog 60 #[.int .i64 20] w (VersionIs 20 w) := by
  go_enter Try.func60, Try.ntmps60
  go_wp2_with fail
  refine (newVersion 20 _ _ _ _ _ (w.heap.size + 1) 2 28 (fun j => if j = 0 then 3 else 5) (fun j => if j = 0 then 107 else 108) _ (by decide) (by decide) (by intro j; split <;> decide) (by intro j; split <;> decide) (by decide) ?hb ?he ?h0 ?h1 ?hl).mono ?_
  case hb => simp
  case he => simp; try omega
  case h0 => go_simp
  case h1 => go_simp
  case hl =>
    intro j hj
    have h : j = 0 ∨ j = 1 := by omega
    rcases h with rfl | rfl <;> (refine ⟨?_, ?_⟩ <;> go_simp)
  rintro e w1 ⟨p, rfl, hA, hb, hp⟩
  have HA := Lib.hid hA
  have HB := Lib.hid hb
  clear hA hb
  go_wp2_with fail
  go_ret
  exact VersionIs.mk HA.out ((ball (ball (ball (ball (ball (ball (Below.refl _ _) _) _) _) _) _) _).trans (HB.out.mono (by simp; omega)))

end Go.Proofs.Ytpeipolknphjhaa
