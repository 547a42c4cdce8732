/-
  versionOf, walked, versions 21 to 30: it tells the version. No condition.
-/
import Derived.Test.YtpeipolknphjhaaQV
namespace Go.Proofs.Ytpeipolknphjhaa
open Go.RowKit Go.Qz
set_option linter.unusedVariables false

set_option maxRecDepth 100000 in
set_option maxHeartbeats 16000000 in
theorem versionOf21 (w : World) : Calls Try.prog 60 #[.int .i64 21] w (VersionIs 21 w) := by
  go_enter Try.func60, Try.ntmps60
  go_wp2_with fail
  refine (newVersion 21 _ _ _ _ _ (w.heap.size + 1) 2 28 (fun j => if j = 0 then 4 else 4) (fun j => if j = 0 then 116 else 117) _ (by decide) (by decide) (by intro j; split <;> decide) (by intro j; split <;> decide) (by decide) ?hb ?he ?h0 ?h1 ?hl).mono ?_
  case hb => simp
  case he => simp; try omega
  case h0 => go_simp
  case h1 => go_simp
  case hl =>
    intro j hj
    have h : j = 0 ∨ j = 1 := by omega
    rcases h with rfl | rfl <;> (refine ⟨?_, ?_⟩ <;> go_simp)
  rintro e w1 ⟨p, rfl, hA, hb, hp⟩
  have HA := Lib.hid hA
  have HB := Lib.hid hb
  clear hA hb
  go_wp2_with fail
  go_ret
  exact VersionIs.mk HA.out ((ball (ball (ball (ball (ball (ball (Below.refl _ _) _) _) _) _) _) _).trans (HB.out.mono (by simp; omega)))

set_option maxRecDepth 100000 in
set_option maxHeartbeats 16000000 in
theorem versionOf22 (w : World) : Calls Try.prog 60 #[.int .i64 22] w (VersionIs 22 w) := by
  go_enter Try.func60, Try.ntmps60
  go_wp2_with fail
  refine (newVersion 22 _ _ _ _ _ (w.heap.size + 1) 2 28 (fun j => if j = 0 then 2 else 7) (fun j => if j = 0 then 111 else 112) _ (by decide) (by decide) (by intro j; split <;> decide) (by intro j; split <;> decide) (by decide) ?hb ?he ?h0 ?h1 ?hl).mono ?_
  case hb => simp
  case he => simp; try omega
  case h0 => go_simp
  case h1 => go_simp
  case hl =>
    intro j hj
    have h : j = 0 ∨ j = 1 := by omega
    rcases h with rfl | rfl <;> (refine ⟨?_, ?_⟩ <;> go_simp)
  rintro e w1 ⟨p, rfl, hA, hb, hp⟩
  have HA := Lib.hid hA
  have HB := Lib.hid hb
  clear hA hb
  go_wp2_with fail
  go_ret
  exact VersionIs.mk HA.out ((ball (ball (ball (ball (ball (ball (Below.refl _ _) _) _) _) _) _) _).trans (HB.out.mono (by simp; omega)))

set_option maxRecDepth 100000 in
set_option maxHeartbeats 16000000 in
theorem versionOf23 (w : World) : Calls Try.prog 60 #[.int .i64 23] w (VersionIs 23 w) := by
  go_enter Try.func60, Try.ntmps60
  go_wp2_with fail
  refine (newVersion 23 _ _ _ _ _ (w.heap.size + 1) 2 30 (fun j => if j = 0 then 4 else 5) (fun j => if j = 0 then 121 else 122) _ (by decide) (by decide) (by intro j; split <;> decide) (by intro j; split <;> decide) (by decide) ?hb ?he ?h0 ?h1 ?hl).mono ?_
  case hb => simp
  case he => simp; try omega
  case h0 => go_simp
  case h1 => go_simp
  case hl =>
    intro j hj
    have h : j = 0 ∨ j = 1 := by omega
    rcases h with rfl | rfl <;> (refine ⟨?_, ?_⟩ <;> go_simp)
  rintro e w1 ⟨p, rfl, hA, hb, hp⟩
  have HA := Lib.hid hA
  have HB := Lib.hid hb
  clear hA hb
  go_wp2_with fail
  go_ret
  exact VersionIs.mk HA.out ((ball (ball (ball (ball (ball (ball (Below.refl _ _) _) _) _) _) _) _).trans (HB.out.mono (by simp; omega)))

set_option maxRecDepth 100000 in
set_option maxHeartbeats 16000000 in
theorem versionOf24 (w : World) : Calls Try.prog 60 #[.int .i64 24] w (VersionIs 24 w) := by
  go_enter Try.func60, Try.ntmps60
  go_wp2_with fail
  refine (newVersion 24 _ _ _ _ _ (w.heap.size + 1) 2 30 (fun j => if j = 0 then 6 else 4) (fun j => if j = 0 then 117 else 118) _ (by decide) (by decide) (by intro j; split <;> decide) (by intro j; split <;> decide) (by decide) ?hb ?he ?h0 ?h1 ?hl).mono ?_
  case hb => simp
  case he => simp; try omega
  case h0 => go_simp
  case h1 => go_simp
  case hl =>
    intro j hj
    have h : j = 0 ∨ j = 1 := by omega
    rcases h with rfl | rfl <;> (refine ⟨?_, ?_⟩ <;> go_simp)
  rintro e w1 ⟨p, rfl, hA, hb, hp⟩
  have HA := Lib.hid hA
  have HB := Lib.hid hb
  clear hA hb
  go_wp2_with fail
  go_ret
  exact VersionIs.mk HA.out ((ball (ball (ball (ball (ball (ball (Below.refl _ _) _) _) _) _) _) _).trans (HB.out.mono (by simp; omega)))

set_option maxRecDepth 100000 in
set_option maxHeartbeats 16000000 in
theorem versionOf25 (w : World) : Calls Try.prog 60 #[.int .i64 25] w (VersionIs 25 w) := by
  go_enter Try.func60, Try.ntmps60
  go_wp2_with fail
  refine (newVersion 25 _ _ _ _ _ (w.heap.size + 1) 2 26 (fun j => if j = 0 then 8 else 4) (fun j => if j = 0 then 106 else 107) _ (by decide) (by decide) (by intro j; split <;> decide) (by intro j; split <;> decide) (by decide) ?hb ?he ?h0 ?h1 ?hl).mono ?_
  case hb => simp
  case he => simp; try omega
  case h0 => go_simp
  case h1 => go_simp
  case hl =>
    intro j hj
    have h : j = 0 ∨ j = 1 := by omega
    rcases h with rfl | rfl <;> (refine ⟨?_, ?_⟩ <;> go_simp)
  rintro e w1 ⟨p, rfl, hA, hb, hp⟩
  have HA := Lib.hid hA
  have HB := Lib.hid hb
  clear hA hb
  go_wp2_with fail
  go_ret
  exact VersionIs.mk HA.out ((ball (ball (ball (ball (ball (ball (Below.refl _ _) _) _) _) _) _) _).trans (HB.out.mono (by simp; omega)))

set_option maxRecDepth 100000 in
set_option maxHeartbeats 16000000 in
theorem versionOf26 (w : World) : Calls Try.prog 60 #[.int .i64 26] w (VersionIs 26 w) := by
  go_enter Try.func60, Try.ntmps60
  go_wp2_with fail
  refine (newVersion 26 _ _ _ _ _ (w.heap.size + 1) 2 28 (fun j => if j = 0 then 10 else 2) (fun j => if j = 0 then 114 else 115) _ (by decide) (by decide) (by intro j; split <;> decide) (by intro j; split <;> decide) (by decide) ?hb ?he ?h0 ?h1 ?hl).mono ?_
  case hb => simp
  case he => simp; try omega
  case h0 => go_simp
  case h1 => go_simp
  case hl =>
    intro j hj
    have h : j = 0 ∨ j = 1 := by omega
    rcases h with rfl | rfl <;> (refine ⟨?_, ?_⟩ <;> go_simp)
  rintro e w1 ⟨p, rfl, hA, hb, hp⟩
  have HA := Lib.hid hA
  have HB := Lib.hid hb
  clear hA hb
  go_wp2_with fail
  go_ret
  exact VersionIs.mk HA.out ((ball (ball (ball (ball (ball (ball (Below.refl _ _) _) _) _) _) _) _).trans (HB.out.mono (by simp; omega)))

set_option maxRecDepth 100000 in
set_option maxHeartbeats 16000000 in
theorem versionOf27 (w : World) : Calls Try.prog 60 #[.int .i64 27] w (VersionIs 27 w) := by
  go_enter Try.func60, Try.ntmps60
  go_wp2_with fail
  refine (newVersion 27 _ _ _ _ _ (w.heap.size + 1) 2 30 (fun j => if j = 0 then 8 else 4) (fun j => if j = 0 then 122 else 123) _ (by decide) (by decide) (by intro j; split <;> decide) (by intro j; split <;> decide) (by decide) ?hb ?he ?h0 ?h1 ?hl).mono ?_
  case hb => simp
  case he => simp; try omega
  case h0 => go_simp
  case h1 => go_simp
  case hl =>
    intro j hj
    have h : j = 0 ∨ j = 1 := by omega
    rcases h with rfl | rfl <;> (refine ⟨?_, ?_⟩ <;> go_simp)
  rintro e w1 ⟨p, rfl, hA, hb, hp⟩
  have HA := Lib.hid hA
  have HB := Lib.hid hb
  clear hA hb
  go_wp2_with fail
  go_ret
  exact VersionIs.mk HA.out ((ball (ball (ball (ball (ball (ball (Below.refl _ _) _) _) _) _) _) _).trans (HB.out.mono (by simp; omega)))

set_option maxRecDepth 100000 in
set_option maxHeartbeats 16000000 in
theorem versionOf28 (w : World) : Calls Try.prog 60 #[.int .i64 28] w (VersionIs 28 w) := by
  go_enter Try.func60, Try.ntmps60
  go_wp2_with fail
  refine (newVersion 28 _ _ _ _ _ (w.heap.size + 1) 2 30 (fun j => if j = 0 then 3 else 10) (fun j => if j = 0 then 117 else 118) _ (by decide) (by decide) (by intro j; split <;> decide) (by intro j; split <;> decide) (by decide) ?hb ?he ?h0 ?h1 ?hl).mono ?_
  case hb => simp
  case he => simp; try omega
  case h0 => go_simp
  case h1 => go_simp
  case hl =>
    intro j hj
    have h : j = 0 ∨ j = 1 := by omega
    rcases h with rfl | rfl <;> (refine ⟨?_, ?_⟩ <;> go_simp)
  rintro e w1 ⟨p, rfl, hA, hb, hp⟩
  have HA := Lib.hid hA
  have HB := Lib.hid hb
  clear hA hb
  go_wp2_with fail
  go_ret
  exact VersionIs.mk HA.out ((ball (ball (ball (ball (ball (ball (Below.refl _ _) _) _) _) _) _) _).trans (HB.out.mono (by simp; omega)))

set_option maxRecDepth 100000 in
set_option maxHeartbeats 16000000 in
theorem versionOf29 (w : World) : Calls Try.prog 60 #[.int .i64 29] w (VersionIs 29 w) := by
  go_enter Try.func60, Try.ntmps60
  go_wp2_with fail
  refine (newVersion 29 _ _ _ _ _ (w.heap.size + 1) 2 30 (fun j => if j = 0 then 7 else 7) (fun j => if j = 0 then 116 else 117) _ (by decide) (by decide) (by intro j; split <;> decide) (by intro j; split <;> decide) (by decide) ?hb ?he ?h0 ?h1 ?hl).mono ?_
  case hb => simp
  case he => simp; try omega
  case h0 => go_simp
  case h1 => go_simp
  case hl =>
    intro j hj
    have h : j = 0 ∨ j = 1 := by omega
    rcases h with rfl | rfl <;> (refine ⟨?_, ?_⟩ <;> go_simp)
  rintro e w1 ⟨p, rfl, hA, hb, hp⟩
  have HA := Lib.hid hA
  have HB := Lib.hid hb
  clear hA hb
  go_wp2_with fail
  go_ret
  exact VersionIs.mk HA.out ((ball (ball (ball (ball (ball (ball (Below.refl _ _) _) _) _) _) _) _).trans (HB.out.mono (by simp; omega)))

set_option maxRecDepth 100000 in
set_option maxHeartbeats 16000000 in
theorem versionOf30 (w : World) : Calls Try.prog 60 #[.int .i64 30] w (VersionIs 30 w) := by
  go_enter Try.func60, Try.ntmps60
  go_wp2_with fail
  refine (newVersion 30 _ _ _ _ _ (w.heap.size + 1) 2 30 (fun j => if j = 0 then 5 else 10) (fun j => if j = 0 then 115 else 116) _ (by decide) (by decide) (by intro j; split <;> decide) (by intro j; split <;> decide) (by decide) ?hb ?he ?h0 ?h1 ?hl).mono ?_
  case hb => simp
  case he => simp; try omega
  case h0 => go_simp
  case h1 => go_simp
  case hl =>
    intro j hj
    have h : j = 0 ∨ j = 1 := by omega
    rcases h with rfl | rfl <;> (refine ⟨?_, ?_⟩ <;> go_simp)
  rintro e w1 ⟨p, rfl, hA, hb, hp⟩
  have HA := Lib.hid hA
  have HB := Lib.hid hb
  clear hA hb
  go_wp2_with fail
  go_ret
  exact VersionIs.mk HA.out ((ball (ball (ball (ball (ball (ball (Below.refl _ _) _) _) _) _) _) _).trans (HB.out.mono (by simp; omega)))

end Go.Proofs.Ytpeipolknphjhaa
