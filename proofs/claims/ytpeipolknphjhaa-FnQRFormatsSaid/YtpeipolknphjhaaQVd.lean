/-
  versionOf, walked, versions 31 to 40: it tells the version. No condition.
-/
import Derived.Test.YtpeipolknphjhaaQV
namespace Go.Proofs.Ytpeipolknphjhaa
open Go.RowKit Go.Qz
set_option linter.unusedVariables false

set_option maxRecDepth 100000 in
set_option maxHeartbeats 16000000 in
theorem versionOf31 (w : World) : Calls Try.prog 60 #[.int .i64 31] w (VersionIs 31 w) := by
  go_enter Try.func60, Try.ntmps60
  go_wp2_with fail
  refine (newVersion 31 _ _ _ _ _ (w.heap.size + 1) 2 30 (fun j => if j = 0 then 13 else 3) (fun j => if j = 0 then 115 else 116) _ (by decide) (by decide) (by intro j; split <;> decide) (by intro j; split <;> decide) (by decide) ?hb ?he ?h0 ?h1 ?hl).mono ?_
  case hb => simp
  case he => simp; try omega
  case h0 => go_simp
  case h1 => go_simp
  case hl =>
    intro j hj
    have h : j = 0 ∨ j = 1 := by omega
    rcases h with rfl | rfl <;> (refine ⟨?_, ?_⟩ <;> go_simp)
  rintro e w1 ⟨p, rfl, hA, hb, hp⟩
  have HA := Lib.hid hA
  have HB := Lib.hid hb
  clear hA hb
  go_wp2_with fail
  go_ret
  exact VersionIs.mk HA.out ((ball (ball (ball (ball (ball (ball (Below.refl _ _) _) _) _) _) _) _).trans (HB.out.mono (by simp; omega)))

set_option maxRecDepth 100000 in
set_option maxHeartbeats 16000000 in
theorem versionOf32 (w : World) : Calls Try.prog 60 #[.int .i64 32] w (VersionIs 32 w) := by
  go_enter Try.func60, Try.ntmps60
  go_wp2_with fail
  refine (newVersion 32 _ _ _ _ _ (w.heap.size + 1) 1 30 (fun j => 17) (fun j => 115) _ (by decide) (by decide) (by intro j; decide) (by intro j; decide) (by decide) ?hb ?he ?h0 ?h1 ?hl).mono ?_
  case hb => simp
  case he => simp; try omega
  case h0 => go_simp
  case h1 => go_simp
  case hl =>
    intro j hj
    have h : j = 0 := by omega
    subst h <;> (refine ⟨?_, ?_⟩ <;> go_simp)
  rintro e w1 ⟨p, rfl, hA, hb, hp⟩
  have HA := Lib.hid hA
  have HB := Lib.hid hb
  clear hA hb
  go_wp2_with fail
  go_ret
  exact VersionIs.mk HA.out ((ball (ball (ball (ball (ball (ball (Below.refl _ _) _) _) _) _) _) _).trans (HB.out.mono (by simp; omega)))

set_option maxRecDepth 100000 in
set_option maxHeartbeats 16000000 in
theorem versionOf33 (w : World) : Calls Try.prog 60 #[.int .i64 33] w (VersionIs 33 w) := by
  go_enter Try.func60, Try.ntmps60
  go_wp2_with fail
  refine (newVersion 33 _ _ _ _ _ (w.heap.size + 1) 2 30 (fun j => if j = 0 then 17 else 1) (fun j => if j = 0 then 115 else 116) _ (by decide) (by decide) (by intro j; split <;> decide) (by intro j; split <;> decide) (by decide) ?hb ?he ?h0 ?h1 ?hl).mono ?_
  case hb => simp
  case he => simp; try omega
  case h0 => go_simp
  case h1 => go_simp
  case hl =>
    intro j hj
    have h : j = 0 ∨ j = 1 := by omega
    rcases h with rfl | rfl <;> (refine ⟨?_, ?_⟩ <;> go_simp)
  rintro e w1 ⟨p, rfl, hA, hb, hp⟩
  have HA := Lib.hid hA
  have HB := Lib.hid hb
  clear hA hb
  go_wp2_with fail
  go_ret
  exact VersionIs.mk HA.out ((ball (ball (ball (ball (ball (ball (Below.refl _ _) _) _) _) _) _) _).trans (HB.out.mono (by simp; omega)))

set_option maxRecDepth 100000 in
set_option maxHeartbeats 16000000 in
theorem versionOf34 (w : World) : Calls Try.prog 60 #[.int .i64 34] w (VersionIs 34 w) := by
  go_enter Try.func60, Try.ntmps60
  go_wp2_with fail
  refine (newVersion 34 _ _ _ _ _ (w.heap.size + 1) 2 30 (fun j => if j = 0 then 13 else 6) (fun j => if j = 0 then 115 else 116) _ (by decide) (by decide) (by intro j; split <;> decide) (by intro j; split <;> decide) (by decide) ?hb ?he ?h0 ?h1 ?hl).mono ?_
  case hb => simp
  case he => simp; try omega
  case h0 => go_simp
  case h1 => go_simp
  case hl =>
    intro j hj
    have h : j = 0 ∨ j = 1 := by omega
    rcases h with rfl | rfl <;> (refine ⟨?_, ?_⟩ <;> go_simp)
  rintro e w1 ⟨p, rfl, hA, hb, hp⟩
  have HA := Lib.hid hA
  have HB := Lib.hid hb
  clear hA hb
  go_wp2_with fail
  go_ret
  exact VersionIs.mk HA.out ((ball (ball (ball (ball (ball (ball (Below.refl _ _) _) _) _) _) _) _).trans (HB.out.mono (by simp; omega)))

set_option maxRecDepth 100000 in
set_option maxHeartbeats 16000000 in
theorem versionOf35 (w : World) : Calls Try.prog 60 #[.int .i64 35] w (VersionIs 35 w) := by
  go_enter Try.func60, Try.ntmps60
  go_wp2_with fail
  refine (newVersion 35 _ _ _ _ _ (w.heap.size + 1) 2 30 (fun j => if j = 0 then 12 else 7) (fun j => if j = 0 then 121 else 122) _ (by decide) (by decide) (by intro j; split <;> decide) (by intro j; split <;> decide) (by decide) ?hb ?he ?h0 ?h1 ?hl).mono ?_
  case hb => simp
  case he => simp; try omega
  case h0 => go_simp
  case h1 => go_simp
  case hl =>
    intro j hj
    have h : j = 0 ∨ j = 1 := by omega
    rcases h with rfl | rfl <;> (refine ⟨?_, ?_⟩ <;> go_simp)
  rintro e w1 ⟨p, rfl, hA, hb, hp⟩
  have HA := Lib.hid hA
  have HB := Lib.hid hb
  clear hA hb
  go_wp2_with fail
  go_ret
  exact VersionIs.mk HA.out ((ball (ball (ball (ball (ball (ball (Below.refl _ _) _) _) _) _) _) _).trans (HB.out.mono (by simp; omega)))

set_option maxRecDepth 100000 in
set_option maxHeartbeats 16000000 in
theorem versionOf36 (w : World) : Calls Try.prog 60 #[.int .i64 36] w (VersionIs 36 w) := by
  go_enter Try.func60, Try.ntmps60
  go_wp2_with fail
  refine (newVersion 36 _ _ _ _ _ (w.heap.size + 1) 2 30 (fun j => if j = 0 then 6 else 14) (fun j => if j = 0 then 121 else 122) _ (by decide) (by decide) (by intro j; split <;> decide) (by intro j; split <;> decide) (by decide) ?hb ?he ?h0 ?h1 ?hl).mono ?_
  case hb => simp
  case he => simp; try omega
  case h0 => go_simp
  case h1 => go_simp
  case hl =>
    intro j hj
    have h : j = 0 ∨ j = 1 := by omega
    rcases h with rfl | rfl <;> (refine ⟨?_, ?_⟩ <;> go_simp)
  rintro e w1 ⟨p, rfl, hA, hb, hp⟩
  have HA := Lib.hid hA
  have HB := Lib.hid hb
  clear hA hb
  go_wp2_with fail
  go_ret
  exact VersionIs.mk HA.out ((ball (ball (ball (ball (ball (ball (Below.refl _ _) _) _) _) _) _) _).trans (HB.out.mono (by simp; omega)))

set_option maxRecDepth 100000 in
set_option maxHeartbeats 16000000 in
theorem versionOf37 (w : World) : Calls Try.prog 60 #[.int .i64 37] w (VersionIs 37 w) := by
  go_enter Try.func60, Try.ntmps60
  go_wp2_with fail
  refine (newVersion 37 _ _ _ _ _ (w.heap.size + 1) 2 30 (fun j => if j = 0 then 17 else 4) (fun j => if j = 0 then 122 else 123) _ (by decide) (by decide) (by intro j; split <;> decide) (by intro j; split <;> decide) (by decide) ?hb ?he ?h0 ?h1 ?hl).mono ?_
  case hb => simp
  case he => simp; try omega
  case h0 => go_simp
  case h1 => go_simp
  case hl =>
    intro j hj
    have h : j = 0 ∨ j = 1 := by omega
    rcases h with rfl | rfl <;> (refine ⟨?_, ?_⟩ <;> go_simp)
  rintro e w1 ⟨p, rfl, hA, hb, hp⟩
  have HA := Lib.hid hA
  have HB := Lib.hid hb
  clear hA hb
  go_wp2_with fail
  go_ret
  exact VersionIs.mk HA.out ((ball (ball (ball (ball (ball (ball (Below.refl _ _) _) _) _) _) _) _).trans (HB.out.mono (by simp; omega)))

set_option maxRecDepth 100000 in
set_option maxHeartbeats 16000000 in
theorem versionOf38 (w : World) : Calls Try.prog 60 #[.int .i64 38] w (VersionIs 38 w) := by
  go_enter Try.func60, Try.ntmps60
  go_wp2_with fail
  refine (newVersion 38 _ _ _ _ _ (w.heap.size + 1) 2 30 (fun j => if j = 0 then 4 else 18) (fun j => if j = 0 then 122 else 123) _ (by decide) (by decide) (by intro j; split <;> decide) (by intro j; split <;> decide) (by decide) ?hb ?he ?h0 ?h1 ?hl).mono ?_
  case hb => simp
  case he => simp; try omega
  case h0 => go_simp
  case h1 => go_simp
  case hl =>
    intro j hj
    have h : j = 0 ∨ j = 1 := by omega
    rcases h with rfl | rfl <;> (refine ⟨?_, ?_⟩ <;> go_simp)
  rintro e w1 ⟨p, rfl, hA, hb, hp⟩
  have HA := Lib.hid hA
  have HB := Lib.hid hb
  clear hA hb
  go_wp2_with fail
  go_ret
  exact VersionIs.mk HA.out ((ball (ball (ball (ball (ball (ball (Below.refl _ _) _) _) _) _) _) _).trans (HB.out.mono (by simp; omega)))

set_option maxRecDepth 100000 in
set_option maxHeartbeats 16000000 in
theorem versionOf39 (w : World) : Calls Try.prog 60 #[.int .i64 39] w (VersionIs 39 w) := by
  go_enter Try.func60, Try.ntmps60
  go_wp2_with fail
  refine (newVersion 39 _ _ _ _ _ (w.heap.size + 1) 2 30 (fun j => if j = 0 then 20 else 4) (fun j => if j = 0 then 117 else 118) _ (by decide) (by decide) (by intro j; split <;> decide) (by intro j; split <;> decide) (by decide) ?hb ?he ?h0 ?h1 ?hl).mono ?_
  case hb => simp
  case he => simp; try omega
  case h0 => go_simp
  case h1 => go_simp
  case hl =>
    intro j hj
    have h : j = 0 ∨ j = 1 := by omega
    rcases h with rfl | rfl <;> (refine ⟨?_, ?_⟩ <;> go_simp)
  rintro e w1 ⟨p, rfl, hA, hb, hp⟩
  have HA := Lib.hid hA
  have HB := Lib.hid hb
  clear hA hb
  go_wp2_with fail
  go_ret
  exact VersionIs.mk HA.out ((ball (ball (ball (ball (ball (ball (Below.refl _ _) _) _) _) _) _) _).trans (HB.out.mono (by simp; omega)))

set_option maxRecDepth 100000 in
set_option maxHeartbeats 16000000 in
theorem versionOf40 (w : World) : Calls Try.prog 60 #[.int .i64 40] w (VersionIs 40 w) := by
  go_enter Try.func60, Try.ntmps60
  go_wp2_with fail
  refine (newVersion 40 _ _ _ _ _ (w.heap.size + 1) 2 30 (fun j => if j = 0 then 19 else 6) (fun j => if j = 0 then 118 else 119) _ (by decide) (by decide) (by intro j; split <;> decide) (by intro j; split <;> decide) (by decide) ?hb ?he ?h0 ?h1 ?hl).mono ?_
  case hb => simp
  case he => simp; try omega
  case h0 => go_simp
  case h1 => go_simp
  case hl =>
    intro j hj
    have h : j = 0 ∨ j = 1 := by omega
    rcases h with rfl | rfl <;> (refine ⟨?_, ?_⟩ <;> go_simp)
  rintro e w1 ⟨p, rfl, hA, hb, hp⟩
  have HA := Lib.hid hA
  have HB := Lib.hid hb
  clear hA hb
  go_wp2_with fail
  go_ret
  exact VersionIs.mk HA.out ((ball (ball (ball (ball (ball (ball (Below.refl _ _) _) _) _) _) _) _).trans (HB.out.mono (by simp; omega)))

end Go.Proofs.Ytpeipolknphjhaa
