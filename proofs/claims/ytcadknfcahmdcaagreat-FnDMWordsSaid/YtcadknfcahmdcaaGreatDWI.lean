/-
  Kinds of bytes, walked. No condition beyond the bounds that each theorem states.
-/
import Derived.Test.YtcadknfcahmdcaaGreatDWJ
import Derived.Test.YtcadknfcahmdcaaGreatNF
namespace Go.Proofs.YtcadknfcahmdcaaGreat
open Go.RowKit Go.Qz Go.Qz.DV Go.Qz.DF
set_option linter.unusedVariables false



set_option maxRecDepth 100000 in
theorem isDigit (c : Nat) (hc : c < 128) (w : World) : Calls Tryz.prog 108 #[.int .u8 c] w fun e w' => e = .returned (.bool (isD c)) ∧ w = w' := by
  obtain ⟨b, hb⟩ : ∃ b, b = isD c := ⟨_, rfl⟩
  rw [← hb]
  unfold isD at hb
  by_cases h1 : (48 : Int) ≤ (c : Int)
  · by_cases h2 : (c : Int) ≤ 57
    · obtain rfl : b = true := by rw [hb]; simp; omega
      clear hb
      have d1 : decide ((48 : Int) ≤ (c : Int)) = true := by simpa using h1
      have d2 : decide ((c : Int) ≤ 57) = true := by simpa using h2
      go_enter Tryz.func108, Tryz.ntmps108
      go_wp2_with fail
      go_ret
      exact ⟨rfl, rfl⟩
    · obtain rfl : b = false := by rw [hb]; simp; omega
      clear hb
      have d1 : decide ((48 : Int) ≤ (c : Int)) = true := by simpa using h1
      have d2 : ((c : Int) ≤ 57) = False := by simpa using h2
      go_enter Tryz.func108, Tryz.ntmps108
      go_wp2_with fail
      go_ret
      exact ⟨rfl, rfl⟩
  · obtain rfl : b = false := by rw [hb]; simp; omega
    clear hb
    have d1 : ((48 : Int) ≤ (c : Int)) = False := by simpa using h1
    go_enter Tryz.func108, Tryz.ntmps108
    go_wp2_with fail
    go_ret
    exact ⟨rfl, rfl⟩
set_option maxRecDepth 100000 in
theorem isExt (c : Nat) (hc : c < 128) (w : World) : Calls Tryz.prog 107 #[.int .u8 c] w fun e w' => e = .returned (.bool false) ∧ w = w' := by
  have d1 : ((128 : Int) ≤ (c : Int)) = False := by simp; omega
  go_enter Tryz.func107, Tryz.ntmps107
  go_wp2_with fail
  go_ret
  exact ⟨rfl, rfl⟩
set_option maxRecDepth 100000 in
theorem isB256 (c : Nat) (hc : c < 128) (w : World) : Calls Tryz.prog 116 #[.int .u8 c] w fun e w' => e = .returned (.bool false) ∧ w = w' := by
  go_enter Tryz.func116, Tryz.ntmps116
  go_wp2_with fail
  go_ret
  exact ⟨rfl, rfl⟩


set_option maxRecDepth 100000 in
set_option maxHeartbeats 1600000 in
theorem isNatE (c : Nat) (hc : c < 128) (w : World) : Calls Tryz.prog 115 #[.int .u8 c] w fun e w' => e = .returned (.bool (isE c)) ∧ w = w' := by
  obtain ⟨b, hb⟩ : ∃ b, b = isE c := ⟨_, rfl⟩
  rw [← hb]
  unfold isE at hb
  by_cases q0 : (32 : Int) ≤ (c : Int)
  · by_cases r0 : (c : Int) ≤ 94
    · skip
      obtain rfl : b = true := by rw [hb]; simp; omega
      clear hb
      have d0 : decide ((32 : Int) ≤ (c : Int)) = true := by simpa using q0
      have d1 : decide ((c : Int) ≤ 94) = true := by simpa using r0
      go_enter Tryz.func115, Tryz.ntmps115
      go_wp2_with fail
      go_ret
      exact ⟨rfl, rfl⟩
    · skip
      obtain rfl : b = false := by rw [hb]; simp; omega
      clear hb
      have d0 : decide ((32 : Int) ≤ (c : Int)) = true := by simpa using q0
      have d1 : ((c : Int) ≤ 94) = False := by simpa using r0
      go_enter Tryz.func115, Tryz.ntmps115
      go_wp2_with fail
      go_ret
      exact ⟨rfl, rfl⟩
  · skip
    obtain rfl : b = false := by rw [hb]; simp; omega
    clear hb
    have d0 : ((32 : Int) ≤ (c : Int)) = False := by simpa using q0
    go_enter Tryz.func115, Tryz.ntmps115
    go_wp2_with fail
    go_ret
    exact ⟨rfl, rfl⟩
set_option maxRecDepth 100000 in
set_option maxHeartbeats 1600000 in
theorem isSep (c : Nat) (hc : c < 128) (w : World) : Calls Tryz.prog 117 #[.int .u8 c] w fun e w' => e = .returned (.bool (isS c)) ∧ w = w' := by
  obtain ⟨b, hb⟩ : ∃ b, b = isS c := ⟨_, rfl⟩
  rw [← hb]
  unfold isS at hb
  by_cases q0 : (c : Int) = 13
  · have q0a : ((c : Int) == 13) = true := by simpa using q0
    obtain rfl : b = true := by rw [hb]; simp; omega
    clear hb
    have d0 : ((c : Int) == 13) = true := q0a
    go_enter Tryz.func117, Tryz.ntmps117
    go_wp2_with fail
    go_ret
    exact ⟨rfl, rfl⟩
  · have q0a : ((c : Int) == 13) = false := by simpa using q0
    by_cases q1 : (c : Int) = 42
    · have q1a : ((c : Int) == 42) = true := by simpa using q1
      obtain rfl : b = true := by rw [hb]; simp; omega
      clear hb
      have d0 : ((c : Int) == 13) = false := q0a
      have d1 : ((c : Int) == 42) = true := q1a
      go_enter Tryz.func117, Tryz.ntmps117
      go_wp2_with fail
      go_ret
      exact ⟨rfl, rfl⟩
    · have q1a : ((c : Int) == 42) = false := by simpa using q1
      by_cases q2 : (c : Int) = 62
      · have q2a : ((c : Int) == 62) = true := by simpa using q2
        obtain rfl : b = true := by rw [hb]; simp; omega
        clear hb
        have d0 : ((c : Int) == 13) = false := q0a
        have d1 : ((c : Int) == 42) = false := q1a
        have d2 : ((c : Int) == 62) = true := q2a
        go_enter Tryz.func117, Tryz.ntmps117
        go_wp2_with fail
        go_ret
        exact ⟨rfl, rfl⟩
      · have q2a : ((c : Int) == 62) = false := by simpa using q2
        obtain rfl : b = false := by rw [hb]; simp; omega
        clear hb
        have d0 : ((c : Int) == 13) = false := q0a
        have d1 : ((c : Int) == 42) = false := q1a
        have d2 : ((c : Int) == 62) = false := q2a
        go_enter Tryz.func117, Tryz.ntmps117
        go_wp2_with fail
        go_ret
        exact ⟨rfl, rfl⟩
set_option maxRecDepth 100000 in
set_option maxHeartbeats 1600000 in
theorem isNatC (c : Nat) (hc : c < 128) (w : World) : Calls Tryz.prog 112 #[.int .u8 c] w fun e w' => e = .returned (.bool (isC c)) ∧ w = w' := by
  obtain ⟨b, hb⟩ : ∃ b, b = isC c := ⟨_, rfl⟩
  rw [← hb]
  unfold isC at hb
  by_cases q0 : (c : Int) = 32
  · have q0a : ((c : Int) == 32) = true := by simpa using q0
    obtain rfl : b = true := by rw [hb]; simp; omega
    clear hb
    have d0 : ((c : Int) == 32) = true := q0a
    go_enter Tryz.func112, Tryz.ntmps112
    go_wp2_with fail
    go_ret
    exact ⟨rfl, rfl⟩
  · have q0a : ((c : Int) == 32) = false := by simpa using q0
    by_cases q1 : (48 : Int) ≤ (c : Int)
    · by_cases r1 : (c : Int) ≤ 57
      · skip
        obtain rfl : b = true := by rw [hb]; simp; omega
        clear hb
        have d0 : ((c : Int) == 32) = false := q0a
        have d1 : decide ((48 : Int) ≤ (c : Int)) = true := by simpa using q1
        have d2 : decide ((c : Int) ≤ 57) = true := by simpa using r1
        go_enter Tryz.func112, Tryz.ntmps112
        go_wp2_with fail
        go_ret
        exact ⟨rfl, rfl⟩
      · skip
        by_cases q2 : (65 : Int) ≤ (c : Int)
        · by_cases r2 : (c : Int) ≤ 90
          · skip
            obtain rfl : b = true := by rw [hb]; simp; omega
            clear hb
            have d0 : ((c : Int) == 32) = false := q0a
            have d1 : decide ((48 : Int) ≤ (c : Int)) = true := by simpa using q1
            have d2 : ((c : Int) ≤ 57) = False := by simpa using r1
            have d3 : decide ((65 : Int) ≤ (c : Int)) = true := by simpa using q2
            have d4 : decide ((c : Int) ≤ 90) = true := by simpa using r2
            go_enter Tryz.func112, Tryz.ntmps112
            go_wp2_with fail
            go_ret
            exact ⟨rfl, rfl⟩
          · skip
            obtain rfl : b = false := by rw [hb]; simp; omega
            clear hb
            have d0 : ((c : Int) == 32) = false := q0a
            have d1 : decide ((48 : Int) ≤ (c : Int)) = true := by simpa using q1
            have d2 : ((c : Int) ≤ 57) = False := by simpa using r1
            have d3 : decide ((65 : Int) ≤ (c : Int)) = true := by simpa using q2
            have d4 : ((c : Int) ≤ 90) = False := by simpa using r2
            go_enter Tryz.func112, Tryz.ntmps112
            go_wp2_with fail
            go_ret
            exact ⟨rfl, rfl⟩
        · skip
          obtain rfl : b = false := by rw [hb]; simp; omega
          clear hb
          have d0 : ((c : Int) == 32) = false := q0a
          have d1 : decide ((48 : Int) ≤ (c : Int)) = true := by simpa using q1
          have d2 : ((c : Int) ≤ 57) = False := by simpa using r1
          have d3 : ((65 : Int) ≤ (c : Int)) = False := by simpa using q2
          go_enter Tryz.func112, Tryz.ntmps112
          go_wp2_with fail
          go_ret
          exact ⟨rfl, rfl⟩
    · skip
      by_cases q2 : (65 : Int) ≤ (c : Int)
      · by_cases r2 : (c : Int) ≤ 90
        · skip
          obtain rfl : b = true := by rw [hb]; simp; omega
          clear hb
          have d0 : ((c : Int) == 32) = false := q0a
          have d1 : ((48 : Int) ≤ (c : Int)) = False := by simpa using q1
          have d2 : decide ((65 : Int) ≤ (c : Int)) = true := by simpa using q2
          have d3 : decide ((c : Int) ≤ 90) = true := by simpa using r2
          go_enter Tryz.func112, Tryz.ntmps112
          go_wp2_with fail
          go_ret
          exact ⟨rfl, rfl⟩
        · skip
          obtain rfl : b = false := by rw [hb]; simp; omega
          clear hb
          have d0 : ((c : Int) == 32) = false := q0a
          have d1 : ((48 : Int) ≤ (c : Int)) = False := by simpa using q1
          have d2 : decide ((65 : Int) ≤ (c : Int)) = true := by simpa using q2
          have d3 : ((c : Int) ≤ 90) = False := by simpa using r2
          go_enter Tryz.func112, Tryz.ntmps112
          go_wp2_with fail
          go_ret
          exact ⟨rfl, rfl⟩
      · skip
        obtain rfl : b = false := by rw [hb]; simp; omega
        clear hb
        have d0 : ((c : Int) == 32) = false := q0a
        have d1 : ((48 : Int) ≤ (c : Int)) = False := by simpa using q1
        have d2 : ((65 : Int) ≤ (c : Int)) = False := by simpa using q2
        go_enter Tryz.func112, Tryz.ntmps112
        go_wp2_with fail
        go_ret
        exact ⟨rfl, rfl⟩
set_option maxRecDepth 100000 in
set_option maxHeartbeats 1600000 in
theorem isNatX (c : Nat) (hc : c < 128) (w : World) : Calls Tryz.prog 114 #[.int .u8 c] w fun e w' => e = .returned (.bool (isX c)) ∧ w = w' := by
  obtain ⟨b, hb⟩ : ∃ b, b = isX c := ⟨_, rfl⟩
  rw [← hb]
  unfold isX at hb
  obtain ⟨y, hy⟩ : ∃ y, y = isS c := ⟨_, rfl⟩
  have HS := Lib.hid (fun W => isSep c hc W)
  rw [← hy] at HS
  unfold isS at hy
  cases y with
  | true =>
    have hy2 : c = 13 ∨ c = 42 ∨ c = 62 := by simpa [or_assoc] using hy.symm
    obtain rfl : b = true := by rw [hb]; simp; omega
    clear hb hy hy2
    go_enter Tryz.func114, Tryz.ntmps114
    go_wp2_with fail
    refine (HS.out _).mono ?_
    rintro e w1 ⟨rfl, rfl⟩
    go_wp2_with fail
    go_ret
    exact ⟨rfl, rfl⟩
  | false =>
    have hy2 : ¬ (c = 13 ∨ c = 42 ∨ c = 62) := by have := hy.symm; simp at this; omega
    clear hy
    go_enter Tryz.func114, Tryz.ntmps114
    go_wp2_with fail
    refine (HS.out _).mono ?_
    rintro e w1 ⟨rfl, rfl⟩
    by_cases q0 : (c : Int) = 32
    · have q0a : ((c : Int) == 32) = true := by simpa using q0
      obtain rfl : b = true := by rw [hb]; simp; omega
      clear hb hy2
      have d0 : ((c : Int) == 32) = true := q0a
      go_wp2_with fail
      go_ret
      exact ⟨rfl, rfl⟩
    · have q0a : ((c : Int) == 32) = false := by simpa using q0
      by_cases q1 : (48 : Int) ≤ (c : Int)
      · by_cases r1 : (c : Int) ≤ 57
        · skip
          obtain rfl : b = true := by rw [hb]; simp; omega
          clear hb hy2
          have d0 : ((c : Int) == 32) = false := q0a
          have d1 : decide ((48 : Int) ≤ (c : Int)) = true := by simpa using q1
          have d2 : decide ((c : Int) ≤ 57) = true := by simpa using r1
          go_wp2_with fail
          go_ret
          exact ⟨rfl, rfl⟩
        · skip
          by_cases q2 : (65 : Int) ≤ (c : Int)
          · by_cases r2 : (c : Int) ≤ 90
            · skip
              obtain rfl : b = true := by rw [hb]; simp; omega
              clear hb hy2
              have d0 : ((c : Int) == 32) = false := q0a
              have d1 : decide ((48 : Int) ≤ (c : Int)) = true := by simpa using q1
              have d2 : ((c : Int) ≤ 57) = False := by simpa using r1
              have d3 : decide ((65 : Int) ≤ (c : Int)) = true := by simpa using q2
              have d4 : decide ((c : Int) ≤ 90) = true := by simpa using r2
              go_wp2_with fail
              go_ret
              exact ⟨rfl, rfl⟩
            · skip
              obtain rfl : b = false := by rw [hb]; simp; omega
              clear hb hy2
              have d0 : ((c : Int) == 32) = false := q0a
              have d1 : decide ((48 : Int) ≤ (c : Int)) = true := by simpa using q1
              have d2 : ((c : Int) ≤ 57) = False := by simpa using r1
              have d3 : decide ((65 : Int) ≤ (c : Int)) = true := by simpa using q2
              have d4 : ((c : Int) ≤ 90) = False := by simpa using r2
              go_wp2_with fail
              go_ret
              exact ⟨rfl, rfl⟩
          · skip
            obtain rfl : b = false := by rw [hb]; simp; omega
            clear hb hy2
            have d0 : ((c : Int) == 32) = false := q0a
            have d1 : decide ((48 : Int) ≤ (c : Int)) = true := by simpa using q1
            have d2 : ((c : Int) ≤ 57) = False := by simpa using r1
            have d3 : ((65 : Int) ≤ (c : Int)) = False := by simpa using q2
            go_wp2_with fail
            go_ret
            exact ⟨rfl, rfl⟩
      · skip
        by_cases q2 : (65 : Int) ≤ (c : Int)
        · by_cases r2 : (c : Int) ≤ 90
          · skip
            obtain rfl : b = true := by rw [hb]; simp; omega
            clear hb hy2
            have d0 : ((c : Int) == 32) = false := q0a
            have d1 : ((48 : Int) ≤ (c : Int)) = False := by simpa using q1
            have d2 : decide ((65 : Int) ≤ (c : Int)) = true := by simpa using q2
            have d3 : decide ((c : Int) ≤ 90) = true := by simpa using r2
            go_wp2_with fail
            go_ret
            exact ⟨rfl, rfl⟩
          · skip
            obtain rfl : b = false := by rw [hb]; simp; omega
            clear hb hy2
            have d0 : ((c : Int) == 32) = false := q0a
            have d1 : ((48 : Int) ≤ (c : Int)) = False := by simpa using q1
            have d2 : decide ((65 : Int) ≤ (c : Int)) = true := by simpa using q2
            have d3 : ((c : Int) ≤ 90) = False := by simpa using r2
            go_wp2_with fail
            go_ret
            exact ⟨rfl, rfl⟩
        · skip
          obtain rfl : b = false := by rw [hb]; simp; omega
          clear hb hy2
          have d0 : ((c : Int) == 32) = false := q0a
          have d1 : ((48 : Int) ≤ (c : Int)) = False := by simpa using q1
          have d2 : ((65 : Int) ≤ (c : Int)) = False := by simpa using q2
          go_wp2_with fail
          go_ret
          exact ⟨rfl, rfl⟩
set_option maxRecDepth 100000 in
set_option maxHeartbeats 1600000 in
theorem isNatT (c : Nat) (hc : c < 128) (w : World) : Calls Tryz.prog 113 #[.int .u8 c] w fun e w' => e = .returned (.bool (isT c)) ∧ w = w' := by
  obtain ⟨b, hb⟩ : ∃ b, b = isT c := ⟨_, rfl⟩
  rw [← hb]
  unfold isT at hb
  by_cases q0 : (c : Int) = 32
  · have q0a : ((c : Int) == 32) = true := by simpa using q0
    obtain rfl : b = true := by rw [hb]; simp; omega
    clear hb
    have d0 : ((c : Int) == 32) = true := q0a
    go_enter Tryz.func113, Tryz.ntmps113
    go_wp2_with fail
    go_ret
    exact ⟨rfl, rfl⟩
  · have q0a : ((c : Int) == 32) = false := by simpa using q0
    by_cases q1 : (48 : Int) ≤ (c : Int)
    · by_cases r1 : (c : Int) ≤ 57
      · skip
        obtain rfl : b = true := by rw [hb]; simp; omega
        clear hb
        have d0 : ((c : Int) == 32) = false := q0a
        have d1 : decide ((48 : Int) ≤ (c : Int)) = true := by simpa using q1
        have d2 : decide ((c : Int) ≤ 57) = true := by simpa using r1
        go_enter Tryz.func113, Tryz.ntmps113
        go_wp2_with fail
        go_ret
        exact ⟨rfl, rfl⟩
      · skip
        by_cases q2 : (97 : Int) ≤ (c : Int)
        · by_cases r2 : (c : Int) ≤ 122
          · skip
            obtain rfl : b = true := by rw [hb]; simp; omega
            clear hb
            have d0 : ((c : Int) == 32) = false := q0a
            have d1 : decide ((48 : Int) ≤ (c : Int)) = true := by simpa using q1
            have d2 : ((c : Int) ≤ 57) = False := by simpa using r1
            have d3 : decide ((97 : Int) ≤ (c : Int)) = true := by simpa using q2
            have d4 : decide ((c : Int) ≤ 122) = true := by simpa using r2
            go_enter Tryz.func113, Tryz.ntmps113
            go_wp2_with fail
            go_ret
            exact ⟨rfl, rfl⟩
          · skip
            obtain rfl : b = false := by rw [hb]; simp; omega
            clear hb
            have d0 : ((c : Int) == 32) = false := q0a
            have d1 : decide ((48 : Int) ≤ (c : Int)) = true := by simpa using q1
            have d2 : ((c : Int) ≤ 57) = False := by simpa using r1
            have d3 : decide ((97 : Int) ≤ (c : Int)) = true := by simpa using q2
            have d4 : ((c : Int) ≤ 122) = False := by simpa using r2
            go_enter Tryz.func113, Tryz.ntmps113
            go_wp2_with fail
            go_ret
            exact ⟨rfl, rfl⟩
        · skip
          obtain rfl : b = false := by rw [hb]; simp; omega
          clear hb
          have d0 : ((c : Int) == 32) = false := q0a
          have d1 : decide ((48 : Int) ≤ (c : Int)) = true := by simpa using q1
          have d2 : ((c : Int) ≤ 57) = False := by simpa using r1
          have d3 : ((97 : Int) ≤ (c : Int)) = False := by simpa using q2
          go_enter Tryz.func113, Tryz.ntmps113
          go_wp2_with fail
          go_ret
          exact ⟨rfl, rfl⟩
    · skip
      by_cases q2 : (97 : Int) ≤ (c : Int)
      · by_cases r2 : (c : Int) ≤ 122
        · skip
          obtain rfl : b = true := by rw [hb]; simp; omega
          clear hb
          have d0 : ((c : Int) == 32) = false := q0a
          have d1 : ((48 : Int) ≤ (c : Int)) = False := by simpa using q1
          have d2 : decide ((97 : Int) ≤ (c : Int)) = true := by simpa using q2
          have d3 : decide ((c : Int) ≤ 122) = true := by simpa using r2
          go_enter Tryz.func113, Tryz.ntmps113
          go_wp2_with fail
          go_ret
          exact ⟨rfl, rfl⟩
        · skip
          obtain rfl : b = false := by rw [hb]; simp; omega
          clear hb
          have d0 : ((c : Int) == 32) = false := q0a
          have d1 : ((48 : Int) ≤ (c : Int)) = False := by simpa using q1
          have d2 : decide ((97 : Int) ≤ (c : Int)) = true := by simpa using q2
          have d3 : ((c : Int) ≤ 122) = False := by simpa using r2
          go_enter Tryz.func113, Tryz.ntmps113
          go_wp2_with fail
          go_ret
          exact ⟨rfl, rfl⟩
      · skip
        obtain rfl : b = false := by rw [hb]; simp; omega
        clear hb
        have d0 : ((c : Int) == 32) = false := q0a
        have d1 : ((48 : Int) ≤ (c : Int)) = False := by simpa using q1
        have d2 : ((97 : Int) ≤ (c : Int)) = False := by simpa using q2
        go_enter Tryz.func113, Tryz.ntmps113
        go_wp2_with fail
        go_ret
        exact ⟨rfl, rfl⟩
end Go.Proofs.YtcadknfcahmdcaaGreat
