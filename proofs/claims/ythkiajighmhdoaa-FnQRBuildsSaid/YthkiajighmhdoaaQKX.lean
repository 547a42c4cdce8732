/-
  The masks: the encoder's and the reference's tell the same, walked. No condition beyond the bounds that each theorem states.
-/
import Derived.Test.YthkiajighmhdoaaQKV
import Derived.Test.YthkiajighmhdoaaNF
namespace Go.Proofs.Ythkiajighmhdoaa
open Go.RowKit Go.Qz Go.Qz.QK Go.Qz.QW Go.Qz.QB
set_option linter.unusedVariables false

/-- A mask at a module: the number that is 0 where it turns. -/
def mkN (m x y : Nat) : Nat := if m = 0 then (x + y) % 2 else if m = 1 then y % 2 else if m = 2 then x % 3 else if m = 3 then (x + y) % 3 else if m = 4 then (y / 2 + x / 3) % 2 else if m = 5 then x * y % 2 + x * y % 3 else if m = 6 then (x * y % 2 + x * y % 3) % 2 else ((x + y) % 2 + x * y % 3) % 2
def mkB (m x y : Nat) : Bool := decide (mkN m x y = 0)
theorem mkB_int (m x y : Nat) (I : Int) (h : I = (mkN m x y : Nat)) : (I == 0) = mkB m x y := by
  subst h
  unfold mkB
  rw [Bool.eq_iff_iff]
  simp
theorem i64_and1' (x : Nat) (hx : x < 1000000) : bits .and .i64 (x : Int) 1 = ((x % 2 : Nat) : Int) := by
  have := i64_and x 1 (by omega) (by omega)
  rw [Nat.and_one_is_mod] at this
  exact this
theorem tm (x k r : Nat) (h : r = x % k) : (x : Int).tmod (k : Int) = (r : Int) := by rw [Int.tmod_eq_emod_of_nonneg (by omega), h]; simp
set_option maxRecDepth 100000 in
set_option maxHeartbeats 6400000 in
theorem maskI (m x y : Nat) (hm : m < 8) (hx : x ≤ 400) (hy : y ≤ 400) (w : World) : Calls Try.prog 101 #[.int .i64 m, .int .i64 x, .int .i64 y] w fun e w' => e = .returned (.tuple #[.bool (mkB m x y), .nilIface]) ∧ w = w' := by
  have h : m = 0 ∨ m = 1 ∨ m = 2 ∨ m = 3 ∨ m = 4 ∨ m = 5 ∨ m = 6 ∨ m = 7 := by omega
  clear hm
  rcases h with rfl | rfl | rfl | rfl | rfl | rfl | rfl | rfl
  · obtain ⟨s, hs⟩ : ∃ s, s = x + y := ⟨_, rfl⟩
    have e1 : (x : Int) + (y : Int) = (s : Int) := by omega
    have e2 : (y : Int) + (x : Int) = (s : Int) := by omega
    have hs400 : s < 1000 := by omega
    obtain ⟨v, hv⟩ : ∃ v, v = s % 2 := ⟨_, rfl⟩
    have e3 : (s : Int).tmod 2 = (v : Int) := tm s 2 v hv
    have e4 : (s : Int) % 2 = (v : Int) := by omega
    have e5 : bits .and .i64 (s : Int) 1 = (v : Int) := by rw [i64_and1' s (by omega), hv]
    have HV : Hid ((v : Int) = (mkN 0 x y : Nat)) := Lib.hid (by rw [hv, hs]; rfl)
    have hv3 : v < 3 := by omega
    clear hs hv
    go_enter Try.func101, Try.ntmps101
    go_wp2_with fail
    go_ret2
    exact ⟨by rw [← mkB_int _ _ _ _ HV.out]; rfl, rfl⟩
  · obtain ⟨v, hv⟩ : ∃ v, v = y % 2 := ⟨_, rfl⟩
    have e3 : (y : Int).tmod 2 = (v : Int) := tm y 2 v hv
    have e4 : (y : Int) % 2 = (v : Int) := by omega
    have e5 : bits .and .i64 (y : Int) 1 = (v : Int) := by rw [i64_and1' y (by omega), hv]
    have HV : Hid ((v : Int) = (mkN 1 x y : Nat)) := Lib.hid (by rw [hv]; rfl)
    have hv3 : v < 3 := by omega
    clear hv
    go_enter Try.func101, Try.ntmps101
    go_wp2_with fail
    go_ret2
    exact ⟨by rw [← mkB_int _ _ _ _ HV.out]; rfl, rfl⟩
  · obtain ⟨v, hv⟩ : ∃ v, v = x % 3 := ⟨_, rfl⟩
    have e3 : (x : Int).tmod 3 = (v : Int) := tm x 3 v hv
    have e4 : (x : Int) % 3 = (v : Int) := by omega
    have HV : Hid ((v : Int) = (mkN 2 x y : Nat)) := Lib.hid (by rw [hv]; rfl)
    have hv3 : v < 3 := by omega
    clear hv
    go_enter Try.func101, Try.ntmps101
    go_wp2_with fail
    go_ret2
    exact ⟨by rw [← mkB_int _ _ _ _ HV.out]; rfl, rfl⟩
  · obtain ⟨s, hs⟩ : ∃ s, s = x + y := ⟨_, rfl⟩
    have e1 : (x : Int) + (y : Int) = (s : Int) := by omega
    have e2 : (y : Int) + (x : Int) = (s : Int) := by omega
    have hs400 : s < 1000 := by omega
    obtain ⟨v, hv⟩ : ∃ v, v = s % 3 := ⟨_, rfl⟩
    have e3 : (s : Int).tmod 3 = (v : Int) := tm s 3 v hv
    have e4 : (s : Int) % 3 = (v : Int) := by omega
    have HV : Hid ((v : Int) = (mkN 3 x y : Nat)) := Lib.hid (by rw [hv, hs]; rfl)
    have hv3 : v < 3 := by omega
    clear hs hv
    go_enter Try.func101, Try.ntmps101
    go_wp2_with fail
    go_ret2
    exact ⟨by rw [← mkB_int _ _ _ _ HV.out]; rfl, rfl⟩
  · obtain ⟨a, ha⟩ : ∃ a, a = y / 2 := ⟨_, rfl⟩
    obtain ⟨b, hb⟩ : ∃ b, b = x / 3 := ⟨_, rfl⟩
    have q1 : (y : Int) / 2 = (a : Int) := by omega
    have q2 : (x : Int) / 3 = (b : Int) := by omega
    have q3 : (y : Int).tdiv 2 = (a : Int) := by rw [Int.tdiv_eq_ediv_of_nonneg (by omega)]; exact q1
    have q4 : (x : Int).tdiv 3 = (b : Int) := by rw [Int.tdiv_eq_ediv_of_nonneg (by omega)]; exact q2
    obtain ⟨s, hs⟩ : ∃ s, s = a + b := ⟨_, rfl⟩
    have e1 : (a : Int) + (b : Int) = (s : Int) := by omega
    have hab : a < 1000 ∧ b < 1000 ∧ s < 1000 := by omega
    obtain ⟨v, hv⟩ : ∃ v, v = s % 2 := ⟨_, rfl⟩
    have e3 : (s : Int).tmod 2 = (v : Int) := tm s 2 v hv
    have e4 : (s : Int) % 2 = (v : Int) := by omega
    have e5 : bits .and .i64 (s : Int) 1 = (v : Int) := by rw [i64_and1' s (by omega), hv]
    have HV : Hid ((v : Int) = (mkN 4 x y : Nat)) := Lib.hid (by rw [hv, hs, ha, hb]; rfl)
    have hv3 : v < 3 := by omega
    clear hs hv ha hb
    go_enter Try.func101, Try.ntmps101
    go_wp2_with fail
    go_ret2
    exact ⟨by rw [← mkB_int _ _ _ _ HV.out]; rfl, rfl⟩
  · obtain ⟨p, hp⟩ : ∃ p, p = x * y := ⟨_, rfl⟩
    have hpl : p ≤ 400 * 400 := by rw [hp]; exact Nat.mul_le_mul (by omega) (by omega)
    have e1 : (x : Int) * (y : Int) = (p : Int) := by rw [hp]; simp
    have e2 : (y : Int) * (x : Int) = (p : Int) := by rw [hp, Nat.mul_comm]; simp
    obtain ⟨c, hc⟩ : ∃ c, c = p % 3 := ⟨_, rfl⟩
    have e5 : (p : Int).tmod 3 = (c : Int) := tm p 3 c hc
    have e6 : (p : Int) % 3 = (c : Int) := by omega
    obtain ⟨a, ha⟩ : ∃ a, a = p % 2 := ⟨_, rfl⟩
    have e3 : (p : Int).tmod 2 = (a : Int) := tm p 2 a ha
    have e4 : (p : Int) % 2 = (a : Int) := by omega
    have e7 : bits .and .i64 (p : Int) 1 = (a : Int) := by rw [i64_and1' p (by omega), ha]
    obtain ⟨s, hs⟩ : ∃ s, s = a + c := ⟨_, rfl⟩
    have g1 : (a : Int) + (c : Int) = (s : Int) := by omega
    have g2 : (c : Int) + (a : Int) = (s : Int) := by omega
    have hac : a < 2 ∧ c < 3 ∧ s < 10 := by omega
    obtain ⟨v, hv⟩ : ∃ v, v = s := ⟨_, rfl⟩
    have HV : Hid ((s : Int) = (mkN 5 x y : Nat)) := Lib.hid (by rw [hs, ha, hc, hp]; rfl)
    clear hs hv ha hc hp
    go_enter Try.func101, Try.ntmps101
    go_wp2_with fail
    go_ret2
    exact ⟨by rw [← mkB_int _ _ _ _ HV.out]; rfl, rfl⟩
  · obtain ⟨p, hp⟩ : ∃ p, p = x * y := ⟨_, rfl⟩
    have hpl : p ≤ 400 * 400 := by rw [hp]; exact Nat.mul_le_mul (by omega) (by omega)
    have e1 : (x : Int) * (y : Int) = (p : Int) := by rw [hp]; simp
    have e2 : (y : Int) * (x : Int) = (p : Int) := by rw [hp, Nat.mul_comm]; simp
    obtain ⟨c, hc⟩ : ∃ c, c = p % 3 := ⟨_, rfl⟩
    have e5 : (p : Int).tmod 3 = (c : Int) := tm p 3 c hc
    have e6 : (p : Int) % 3 = (c : Int) := by omega
    obtain ⟨a, ha⟩ : ∃ a, a = p % 2 := ⟨_, rfl⟩
    have e3 : (p : Int).tmod 2 = (a : Int) := tm p 2 a ha
    have e4 : (p : Int) % 2 = (a : Int) := by omega
    have e7 : bits .and .i64 (p : Int) 1 = (a : Int) := by rw [i64_and1' p (by omega), ha]
    obtain ⟨s, hs⟩ : ∃ s, s = a + c := ⟨_, rfl⟩
    have g1 : (a : Int) + (c : Int) = (s : Int) := by omega
    have g2 : (c : Int) + (a : Int) = (s : Int) := by omega
    have hac : a < 2 ∧ c < 3 ∧ s < 10 := by omega
    obtain ⟨v, hv⟩ : ∃ v, v = s % 2 := ⟨_, rfl⟩
    have e8 : (s : Int).tmod 2 = (v : Int) := tm s 2 v hv
    have e9 : (s : Int) % 2 = (v : Int) := by omega
    have e10 : bits .and .i64 (s : Int) 1 = (v : Int) := by rw [i64_and1' s (by omega), hv]
    have HV : Hid ((v : Int) = (mkN 6 x y : Nat)) := Lib.hid (by rw [hv, hs, ha, hc, hp]; rfl)
    have hv3 : v < 3 := by omega
    clear hs hv ha hc hp
    go_enter Try.func101, Try.ntmps101
    go_wp2_with fail
    go_ret2
    exact ⟨by rw [← mkB_int _ _ _ _ HV.out]; rfl, rfl⟩
  · obtain ⟨p, hp⟩ : ∃ p, p = x * y := ⟨_, rfl⟩
    have hpl : p ≤ 400 * 400 := by rw [hp]; exact Nat.mul_le_mul (by omega) (by omega)
    have e1 : (x : Int) * (y : Int) = (p : Int) := by rw [hp]; simp
    have e2 : (y : Int) * (x : Int) = (p : Int) := by rw [hp, Nat.mul_comm]; simp
    obtain ⟨c, hc⟩ : ∃ c, c = p % 3 := ⟨_, rfl⟩
    have e5 : (p : Int).tmod 3 = (c : Int) := tm p 3 c hc
    have e6 : (p : Int) % 3 = (c : Int) := by omega
    obtain ⟨t, ht⟩ : ∃ t, t = x + y := ⟨_, rfl⟩
    have f1 : (x : Int) + (y : Int) = (t : Int) := by omega
    have f2 : (y : Int) + (x : Int) = (t : Int) := by omega
    have ht9 : t < 1000 := by omega
    obtain ⟨a, ha⟩ : ∃ a, a = t % 2 := ⟨_, rfl⟩
    have e3 : (t : Int).tmod 2 = (a : Int) := tm t 2 a ha
    have e4 : (t : Int) % 2 = (a : Int) := by omega
    have e7 : bits .and .i64 (t : Int) 1 = (a : Int) := by rw [i64_and1' t (by omega), ha]
    obtain ⟨s, hs⟩ : ∃ s, s = a + c := ⟨_, rfl⟩
    have g1 : (a : Int) + (c : Int) = (s : Int) := by omega
    have g2 : (c : Int) + (a : Int) = (s : Int) := by omega
    have hac : a < 2 ∧ c < 3 ∧ s < 10 := by omega
    obtain ⟨v, hv⟩ : ∃ v, v = s % 2 := ⟨_, rfl⟩
    have e8 : (s : Int).tmod 2 = (v : Int) := tm s 2 v hv
    have e9 : (s : Int) % 2 = (v : Int) := by omega
    have e10 : bits .and .i64 (s : Int) 1 = (v : Int) := by rw [i64_and1' s (by omega), hv]
    have HV : Hid ((v : Int) = (mkN 7 x y : Nat)) := Lib.hid (by rw [hv, hs, ha, hc, ht, hp]; rfl)
    have hv3 : v < 3 := by omega
    clear hs hv ha hc hp ht
    go_enter Try.func101, Try.ntmps101
    go_wp2_with fail
    go_ret2
    exact ⟨by rw [← mkB_int _ _ _ _ HV.out]; rfl, rfl⟩
set_option maxRecDepth 100000 in
set_option maxHeartbeats 6400000 in
theorem maskS (m x y : Nat) (hm : m < 8) (hx : x ≤ 400) (hy : y ≤ 400) (w : World) : Calls Try.prog 39 #[.int .i64 m, .int .i64 x, .int .i64 y] w fun e w' => e = .returned (.bool (mkB m x y)) ∧ w = w' := by
  have h : m = 0 ∨ m = 1 ∨ m = 2 ∨ m = 3 ∨ m = 4 ∨ m = 5 ∨ m = 6 ∨ m = 7 := by omega
  clear hm
  rcases h with rfl | rfl | rfl | rfl | rfl | rfl | rfl | rfl
  · obtain ⟨s, hs⟩ : ∃ s, s = x + y := ⟨_, rfl⟩
    have e1 : (x : Int) + (y : Int) = (s : Int) := by omega
    have e2 : (y : Int) + (x : Int) = (s : Int) := by omega
    have hs400 : s < 1000 := by omega
    obtain ⟨v, hv⟩ : ∃ v, v = s % 2 := ⟨_, rfl⟩
    have e3 : (s : Int).tmod 2 = (v : Int) := tm s 2 v hv
    have e4 : (s : Int) % 2 = (v : Int) := by omega
    have e5 : bits .and .i64 (s : Int) 1 = (v : Int) := by rw [i64_and1' s (by omega), hv]
    have HV : Hid ((v : Int) = (mkN 0 x y : Nat)) := Lib.hid (by rw [hv, hs]; rfl)
    have hv3 : v < 3 := by omega
    clear hs hv
    go_enter Try.func39, Try.ntmps39
    go_wp2_with fail
    go_ret
    exact ⟨by rw [← mkB_int _ _ _ _ HV.out]; rfl, rfl⟩
  · obtain ⟨v, hv⟩ : ∃ v, v = y % 2 := ⟨_, rfl⟩
    have e3 : (y : Int).tmod 2 = (v : Int) := tm y 2 v hv
    have e4 : (y : Int) % 2 = (v : Int) := by omega
    have e5 : bits .and .i64 (y : Int) 1 = (v : Int) := by rw [i64_and1' y (by omega), hv]
    have HV : Hid ((v : Int) = (mkN 1 x y : Nat)) := Lib.hid (by rw [hv]; rfl)
    have hv3 : v < 3 := by omega
    clear hv
    go_enter Try.func39, Try.ntmps39
    go_wp2_with fail
    go_ret
    exact ⟨by rw [← mkB_int _ _ _ _ HV.out]; rfl, rfl⟩
  · obtain ⟨v, hv⟩ : ∃ v, v = x % 3 := ⟨_, rfl⟩
    have e3 : (x : Int).tmod 3 = (v : Int) := tm x 3 v hv
    have e4 : (x : Int) % 3 = (v : Int) := by omega
    have HV : Hid ((v : Int) = (mkN 2 x y : Nat)) := Lib.hid (by rw [hv]; rfl)
    have hv3 : v < 3 := by omega
    clear hv
    go_enter Try.func39, Try.ntmps39
    go_wp2_with fail
    go_ret
    exact ⟨by rw [← mkB_int _ _ _ _ HV.out]; rfl, rfl⟩
  · obtain ⟨s, hs⟩ : ∃ s, s = x + y := ⟨_, rfl⟩
    have e1 : (x : Int) + (y : Int) = (s : Int) := by omega
    have e2 : (y : Int) + (x : Int) = (s : Int) := by omega
    have hs400 : s < 1000 := by omega
    obtain ⟨v, hv⟩ : ∃ v, v = s % 3 := ⟨_, rfl⟩
    have e3 : (s : Int).tmod 3 = (v : Int) := tm s 3 v hv
    have e4 : (s : Int) % 3 = (v : Int) := by omega
    have HV : Hid ((v : Int) = (mkN 3 x y : Nat)) := Lib.hid (by rw [hv, hs]; rfl)
    have hv3 : v < 3 := by omega
    clear hs hv
    go_enter Try.func39, Try.ntmps39
    go_wp2_with fail
    go_ret
    exact ⟨by rw [← mkB_int _ _ _ _ HV.out]; rfl, rfl⟩
  · obtain ⟨a, ha⟩ : ∃ a, a = y / 2 := ⟨_, rfl⟩
    obtain ⟨b, hb⟩ : ∃ b, b = x / 3 := ⟨_, rfl⟩
    have q1 : (y : Int) / 2 = (a : Int) := by omega
    have q2 : (x : Int) / 3 = (b : Int) := by omega
    have q3 : (y : Int).tdiv 2 = (a : Int) := by rw [Int.tdiv_eq_ediv_of_nonneg (by omega)]; exact q1
    have q4 : (x : Int).tdiv 3 = (b : Int) := by rw [Int.tdiv_eq_ediv_of_nonneg (by omega)]; exact q2
    obtain ⟨s, hs⟩ : ∃ s, s = a + b := ⟨_, rfl⟩
    have e1 : (a : Int) + (b : Int) = (s : Int) := by omega
    have hab : a < 1000 ∧ b < 1000 ∧ s < 1000 := by omega
    obtain ⟨v, hv⟩ : ∃ v, v = s % 2 := ⟨_, rfl⟩
    have e3 : (s : Int).tmod 2 = (v : Int) := tm s 2 v hv
    have e4 : (s : Int) % 2 = (v : Int) := by omega
    have e5 : bits .and .i64 (s : Int) 1 = (v : Int) := by rw [i64_and1' s (by omega), hv]
    have HV : Hid ((v : Int) = (mkN 4 x y : Nat)) := Lib.hid (by rw [hv, hs, ha, hb]; rfl)
    have hv3 : v < 3 := by omega
    clear hs hv ha hb
    go_enter Try.func39, Try.ntmps39
    go_wp2_with fail
    go_ret
    exact ⟨by rw [← mkB_int _ _ _ _ HV.out]; rfl, rfl⟩
  · obtain ⟨p, hp⟩ : ∃ p, p = x * y := ⟨_, rfl⟩
    have hpl : p ≤ 400 * 400 := by rw [hp]; exact Nat.mul_le_mul (by omega) (by omega)
    have e1 : (x : Int) * (y : Int) = (p : Int) := by rw [hp]; simp
    have e2 : (y : Int) * (x : Int) = (p : Int) := by rw [hp, Nat.mul_comm]; simp
    obtain ⟨c, hc⟩ : ∃ c, c = p % 3 := ⟨_, rfl⟩
    have e5 : (p : Int).tmod 3 = (c : Int) := tm p 3 c hc
    have e6 : (p : Int) % 3 = (c : Int) := by omega
    obtain ⟨a, ha⟩ : ∃ a, a = p % 2 := ⟨_, rfl⟩
    have e3 : (p : Int).tmod 2 = (a : Int) := tm p 2 a ha
    have e4 : (p : Int) % 2 = (a : Int) := by omega
    have e7 : bits .and .i64 (p : Int) 1 = (a : Int) := by rw [i64_and1' p (by omega), ha]
    obtain ⟨s, hs⟩ : ∃ s, s = a + c := ⟨_, rfl⟩
    have g1 : (a : Int) + (c : Int) = (s : Int) := by omega
    have g2 : (c : Int) + (a : Int) = (s : Int) := by omega
    have hac : a < 2 ∧ c < 3 ∧ s < 10 := by omega
    obtain ⟨v, hv⟩ : ∃ v, v = s := ⟨_, rfl⟩
    have HV : Hid ((s : Int) = (mkN 5 x y : Nat)) := Lib.hid (by rw [hs, ha, hc, hp]; rfl)
    clear hs hv ha hc hp
    go_enter Try.func39, Try.ntmps39
    go_wp2_with fail
    go_ret
    exact ⟨by rw [← mkB_int _ _ _ _ HV.out]; rfl, rfl⟩
  · obtain ⟨p, hp⟩ : ∃ p, p = x * y := ⟨_, rfl⟩
    have hpl : p ≤ 400 * 400 := by rw [hp]; exact Nat.mul_le_mul (by omega) (by omega)
    have e1 : (x : Int) * (y : Int) = (p : Int) := by rw [hp]; simp
    have e2 : (y : Int) * (x : Int) = (p : Int) := by rw [hp, Nat.mul_comm]; simp
    obtain ⟨c, hc⟩ : ∃ c, c = p % 3 := ⟨_, rfl⟩
    have e5 : (p : Int).tmod 3 = (c : Int) := tm p 3 c hc
    have e6 : (p : Int) % 3 = (c : Int) := by omega
    obtain ⟨a, ha⟩ : ∃ a, a = p % 2 := ⟨_, rfl⟩
    have e3 : (p : Int).tmod 2 = (a : Int) := tm p 2 a ha
    have e4 : (p : Int) % 2 = (a : Int) := by omega
    have e7 : bits .and .i64 (p : Int) 1 = (a : Int) := by rw [i64_and1' p (by omega), ha]
    obtain ⟨s, hs⟩ : ∃ s, s = a + c := ⟨_, rfl⟩
    have g1 : (a : Int) + (c : Int) = (s : Int) := by omega
    have g2 : (c : Int) + (a : Int) = (s : Int) := by omega
    have hac : a < 2 ∧ c < 3 ∧ s < 10 := by omega
    obtain ⟨v, hv⟩ : ∃ v, v = s % 2 := ⟨_, rfl⟩
    have e8 : (s : Int).tmod 2 = (v : Int) := tm s 2 v hv
    have e9 : (s : Int) % 2 = (v : Int) := by omega
    have e10 : bits .and .i64 (s : Int) 1 = (v : Int) := by rw [i64_and1' s (by omega), hv]
    have HV : Hid ((v : Int) = (mkN 6 x y : Nat)) := Lib.hid (by rw [hv, hs, ha, hc, hp]; rfl)
    have hv3 : v < 3 := by omega
    clear hs hv ha hc hp
    go_enter Try.func39, Try.ntmps39
    go_wp2_with fail
    go_ret
    exact ⟨by rw [← mkB_int _ _ _ _ HV.out]; rfl, rfl⟩
  · obtain ⟨p, hp⟩ : ∃ p, p = x * y := ⟨_, rfl⟩
    have hpl : p ≤ 400 * 400 := by rw [hp]; exact Nat.mul_le_mul (by omega) (by omega)
    have e1 : (x : Int) * (y : Int) = (p : Int) := by rw [hp]; simp
    have e2 : (y : Int) * (x : Int) = (p : Int) := by rw [hp, Nat.mul_comm]; simp
    obtain ⟨c, hc⟩ : ∃ c, c = p % 3 := ⟨_, rfl⟩
    have e5 : (p : Int).tmod 3 = (c : Int) := tm p 3 c hc
    have e6 : (p : Int) % 3 = (c : Int) := by omega
    obtain ⟨t, ht⟩ : ∃ t, t = x + y := ⟨_, rfl⟩
    have f1 : (x : Int) + (y : Int) = (t : Int) := by omega
    have f2 : (y : Int) + (x : Int) = (t : Int) := by omega
    have ht9 : t < 1000 := by omega
    obtain ⟨a, ha⟩ : ∃ a, a = t % 2 := ⟨_, rfl⟩
    have e3 : (t : Int).tmod 2 = (a : Int) := tm t 2 a ha
    have e4 : (t : Int) % 2 = (a : Int) := by omega
    have e7 : bits .and .i64 (t : Int) 1 = (a : Int) := by rw [i64_and1' t (by omega), ha]
    obtain ⟨s, hs⟩ : ∃ s, s = a + c := ⟨_, rfl⟩
    have g1 : (a : Int) + (c : Int) = (s : Int) := by omega
    have g2 : (c : Int) + (a : Int) = (s : Int) := by omega
    have hac : a < 2 ∧ c < 3 ∧ s < 10 := by omega
    obtain ⟨v, hv⟩ : ∃ v, v = s % 2 := ⟨_, rfl⟩
    have e8 : (s : Int).tmod 2 = (v : Int) := tm s 2 v hv
    have e9 : (s : Int) % 2 = (v : Int) := by omega
    have e10 : bits .and .i64 (s : Int) 1 = (v : Int) := by rw [i64_and1' s (by omega), hv]
    have HV : Hid ((v : Int) = (mkN 7 x y : Nat)) := Lib.hid (by rw [hv, hs, ha, hc, ht, hp]; rfl)
    have hv3 : v < 3 := by omega
    clear hs hv ha hc hp ht
    go_enter Try.func39, Try.ntmps39
    go_wp2_with fail
    go_ret
    exact ⟨by rw [← mkB_int _ _ _ _ HV.out]; rfl, rfl⟩
end Go.Proofs.Ythkiajighmhdoaa
