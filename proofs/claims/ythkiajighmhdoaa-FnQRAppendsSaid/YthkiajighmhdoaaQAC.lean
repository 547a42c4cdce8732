/-
  The bits of one segment (the reference's), walked. No condition beyond the bounds that each theorem states.
-/
import Derived.Test.YthkiajighmhdoaaQAB
namespace Go.Proofs.Ythkiajighmhdoaa
open Go.RowKit Go.Qz Go.Qz.QA
set_option linter.unusedVariables false

def CntPost (k : Nat) (w : World) (e : Ending) (w' : World) : Prop := e = .returned (.tuple #[.int .i64 (k : Nat), .bool true]) ∧ Below w.heap.size w w'
set_option maxRecDepth 100000 in
set_option maxHeartbeats 1600000 in
theorem countBits1 (m v : Nat) (hm : m = 1) (hv : v ≤ 40) (w : World) :
    Calls Try.prog 20 #[.int .i64 m, .int .i64 v] w (CntPost (cnt m v) w) := by
  obtain ⟨k, hk⟩ : ∃ k, k = cnt m v := ⟨_, rfl⟩
  rw [← hk]
  have q0 : ((m : Int) == 0) = false := by simp; omega
  have q1 : ((m : Int) == 1) = true := by simp; omega
  have q2 : ((m : Int) == 2) = false := by simp; omega
  have q3 : ((m : Int) == 3) = false := by simp; omega
  have q4 : ((m : Int) == 4) = false := by simp; omega
  have q5 : ((m : Int) == 5) = false := by simp; omega
  have q7 : ((m : Int) == 7) = false := by simp; omega
  have q9 : ((m : Int) == 9) = false := by simp; omega
  have HM := Lib.hid hm
  rw [hm] at hk
  clear hm
  by_cases h9 : v ≤ 9
  · have h9i : (v : Int) ≤ 9 := by omega
    have hk2 : k = 10 := by rw [hk]; simp [cnt, h9]
    subst hk2
    clear hk h9
    go_enter Try.func20, Try.ntmps20
    go_wp2_with fail
    go_ret2
    exact ⟨rfl, (Below.refl _ _).alloc (Nat.le_refl _) _⟩
  · have h9i : ((v : Int) ≤ 9) = False := by simp; omega
    by_cases h26 : v ≤ 26
    · have h26i : (v : Int) ≤ 26 := by omega
      have hk2 : k = 12 := by rw [hk]; simp [cnt, h9, h26]
      subst hk2
      clear hk h9 h26
      go_enter Try.func20, Try.ntmps20
      go_wp2_with fail
      go_ret2
      exact ⟨rfl, (Below.refl _ _).alloc (Nat.le_refl _) _⟩
    · have h26i : ((v : Int) ≤ 26) = False := by simp; omega
      have hk2 : k = 14 := by rw [hk]; simp [cnt, h9, h26]
      subst hk2
      clear hk h9 h26
      go_enter Try.func20, Try.ntmps20
      go_wp2_with fail
      go_ret2
      exact ⟨rfl, (Below.refl _ _).alloc (Nat.le_refl _) _⟩
set_option maxRecDepth 100000 in
set_option maxHeartbeats 1600000 in
theorem countBits2 (m v : Nat) (hm : m = 2) (hv : v ≤ 40) (w : World) :
    Calls Try.prog 20 #[.int .i64 m, .int .i64 v] w (CntPost (cnt m v) w) := by
  obtain ⟨k, hk⟩ : ∃ k, k = cnt m v := ⟨_, rfl⟩
  rw [← hk]
  have q0 : ((m : Int) == 0) = false := by simp; omega
  have q1 : ((m : Int) == 1) = false := by simp; omega
  have q2 : ((m : Int) == 2) = true := by simp; omega
  have q3 : ((m : Int) == 3) = false := by simp; omega
  have q4 : ((m : Int) == 4) = false := by simp; omega
  have q5 : ((m : Int) == 5) = false := by simp; omega
  have q7 : ((m : Int) == 7) = false := by simp; omega
  have q9 : ((m : Int) == 9) = false := by simp; omega
  have HM := Lib.hid hm
  rw [hm] at hk
  clear hm
  by_cases h9 : v ≤ 9
  · have h9i : (v : Int) ≤ 9 := by omega
    have hk2 : k = 9 := by rw [hk]; simp [cnt, h9]
    subst hk2
    clear hk h9
    go_enter Try.func20, Try.ntmps20
    go_wp2_with fail
    go_ret2
    exact ⟨rfl, (Below.refl _ _).alloc (Nat.le_refl _) _⟩
  · have h9i : ((v : Int) ≤ 9) = False := by simp; omega
    by_cases h26 : v ≤ 26
    · have h26i : (v : Int) ≤ 26 := by omega
      have hk2 : k = 11 := by rw [hk]; simp [cnt, h9, h26]
      subst hk2
      clear hk h9 h26
      go_enter Try.func20, Try.ntmps20
      go_wp2_with fail
      go_ret2
      exact ⟨rfl, (Below.refl _ _).alloc (Nat.le_refl _) _⟩
    · have h26i : ((v : Int) ≤ 26) = False := by simp; omega
      have hk2 : k = 13 := by rw [hk]; simp [cnt, h9, h26]
      subst hk2
      clear hk h9 h26
      go_enter Try.func20, Try.ntmps20
      go_wp2_with fail
      go_ret2
      exact ⟨rfl, (Below.refl _ _).alloc (Nat.le_refl _) _⟩
set_option maxRecDepth 100000 in
set_option maxHeartbeats 1600000 in
theorem countBits4 (m v : Nat) (hm : m = 4) (hv : v ≤ 40) (w : World) :
    Calls Try.prog 20 #[.int .i64 m, .int .i64 v] w (CntPost (cnt m v) w) := by
  obtain ⟨k, hk⟩ : ∃ k, k = cnt m v := ⟨_, rfl⟩
  rw [← hk]
  have q0 : ((m : Int) == 0) = false := by simp; omega
  have q1 : ((m : Int) == 1) = false := by simp; omega
  have q2 : ((m : Int) == 2) = false := by simp; omega
  have q3 : ((m : Int) == 3) = false := by simp; omega
  have q4 : ((m : Int) == 4) = true := by simp; omega
  have q5 : ((m : Int) == 5) = false := by simp; omega
  have q7 : ((m : Int) == 7) = false := by simp; omega
  have q9 : ((m : Int) == 9) = false := by simp; omega
  have HM := Lib.hid hm
  rw [hm] at hk
  clear hm
  by_cases h9 : v ≤ 9
  · have h9i : (v : Int) ≤ 9 := by omega
    have hk2 : k = 8 := by rw [hk]; simp [cnt, h9]
    subst hk2
    clear hk h9
    go_enter Try.func20, Try.ntmps20
    go_wp2_with fail
    go_ret2
    exact ⟨rfl, (Below.refl _ _).alloc (Nat.le_refl _) _⟩
  · have h9i : ((v : Int) ≤ 9) = False := by simp; omega
    by_cases h26 : v ≤ 26
    · have h26i : (v : Int) ≤ 26 := by omega
      have hk2 : k = 16 := by rw [hk]; simp [cnt, h9]
      subst hk2
      clear hk h9 h26
      go_enter Try.func20, Try.ntmps20
      go_wp2_with fail
      go_ret2
      exact ⟨rfl, (Below.refl _ _).alloc (Nat.le_refl _) _⟩
    · have h26i : ((v : Int) ≤ 26) = False := by simp; omega
      have hk2 : k = 16 := by rw [hk]; simp [cnt, h9]
      subst hk2
      clear hk h9 h26
      go_enter Try.func20, Try.ntmps20
      go_wp2_with fail
      go_ret2
      exact ⟨rfl, (Below.refl _ _).alloc (Nat.le_refl _) _⟩
theorem countBits (m v : Nat) (hm : m = 1 ∨ m = 2 ∨ m = 4) (hv : v ≤ 40) (w : World) :
    Calls Try.prog 20 #[.int .i64 m, .int .i64 v] w (CntPost (cnt m v) w) := by
  rcases hm with h | h | h
  · exact countBits1 m v h hv w
  · exact countBits2 m v h hv w
  · exact countBits4 m v h hv w

theorem alV_ok {c : Nat} (h : alNum c < 45) : alV c = ((alNum c : Nat) : Int) := by unfold alV; rw [if_pos h]
set_option maxRecDepth 100000 in
set_option maxHeartbeats 1600000 in
theorem segFits (m : Nat) (hm : m = 1 ∨ m = 2 ∨ m = 4) (T : List Nat) (n c : Nat) (hn : n = T.length) (hnl : n < 100000) (hT : ∀ j, j < n → okIn m (nth T j) ∧ nth T j < 256) (A : Option Addr) (w : World) (h : Rd w A n (fun j => .int .u8 (nth T j : Nat))) :
    Calls Try.prog 21 #[.agg #[.int .i64 m, .slice A n c]] w fun e w' => e = .returned (.bool true) ∧ Below w.heap.size w w' := by
  have HT := Lib.hid hT
  have HM := Lib.hid hm
  have hb0 : Below w.heap.size w (w.alloc (.cells #[.int .i64 (m : Nat), .slice A n c] 49)) := (Below.refl _ _).alloc (Nat.le_refl _) _
  have hA := Arr.new w 49 [.int .i64 (m : Nat), .slice A n c]
  obtain ⟨W1, hW1⟩ : ∃ W1, W1 = w.alloc (.cells #[.int .i64 (m : Nat), .slice A n c] 49) := ⟨_, rfl⟩
  have hA2 : Arr W1 49 w.heap.size [.int .i64 (m : Nat), .slice A n c] := by rw [hW1]; exact hA
  rw [← hW1] at hb0
  obtain ⟨E, hE⟩ : ∃ E, E = w.heap.size := ⟨_, rfl⟩
  have HB := Lib.hid hb0
  have HR := Lib.hid (h.below hb0)
  rw [← hE] at hA2
  have d0 := hA2.cell? 0
  have d1 := hA2.cell? 1
  simp only [List.getElem?_cons_zero, List.getElem?_cons_succ] at d0 d1
  have HNN := Lib.hid hn
  clear hT hm hb0 hA hA2 h hn
  go_enter Try.func21, Try.ntmps21
  go_upto_region 1 with (fail)
  rw [← hW1, ← hE]
  clear hW1 hE
  go_wp2_with fail
  go_loopw [8] (fun i wr => ∃ q : Nat, q ≤ n ∧ i = .int .i64 q ∧ W1 = wr) (fun i _ => n - (intOf i).toNat)
  case atStart => exact ⟨0, Nat.zero_le _, rfl, rfl⟩
  case round =>
    obtain ⟨q, hq, rfl, rfl⟩ := hrel
    by_cases hlt : q < n
    · have hq1 : (q : Int) < (n : Int) := by omega
      have hq0 : (0 : Int) ≤ (q : Int) := by omega
      obtain ⟨b, o, rfl, hb, hc⟩ := HR.out (by omega)
      have cq := hc q hlt
      dsimp only at cq
      obtain ⟨hok, hxb⟩ := HT.out q hlt
      obtain ⟨x, hx⟩ : ∃ x, x = nth T q := ⟨_, rfl⟩
      rw [← hx] at cq hok hxb
      have HAL := qrAlpha x hxb W1
      have HOK := Lib.hid hok
      have HX := Lib.hid hx
      clear hc hx hok
      rcases HM.out with hm1 | hm2 | hm4
      · have q1 : ((m : Int) == 1) = true := by simp; omega
        have q2 : ((m : Int) == 2) = false := by simp; omega
        obtain ⟨h48, h57⟩ := HOK.out.1 hm1
        have g1 : ((x : Int) < 48) = False := by simp; omega
        have g2 : ((57 : Int) < (x : Int)) = False := by simp; omega
        have g3 : decide ((x : Int) < 48) = false := by simp; omega
        have g4 : decide ((57 : Int) < (x : Int)) = false := by simp; omega
        clear HAL hm1 h48 h57
        go_wp2_with fail
        go_roundw
        case rel => exact ⟨q + 1, by omega, by go_num, trivial⟩
        case measure => simp [intOf]; omega
      · have q1 : ((m : Int) == 1) = false := by simp; omega
        have q2 : ((m : Int) == 2) = true := by simp; omega
        rw [alV_ok (HOK.out.2.1 hm2).1] at HAL
        obtain ⟨y, hy⟩ : ∃ y, y = alNum x := ⟨_, rfl⟩
        rw [← hy] at HAL
        have HAL := Lib.hid HAL
        have g1 : ((y : Int) < 0) = False := by simp
        clear hm2 hy
        go_wp2_with fail
        refine HAL.out.mono ?_
        rintro e w1 ⟨rfl, rfl⟩
        go_wp2_with fail
        go_roundw
        case rel => exact ⟨q + 1, by omega, by go_num, trivial⟩
        case measure => simp [intOf]; omega
      · have q1 : ((m : Int) == 1) = false := by simp; omega
        have q2 : ((m : Int) == 2) = false := by simp; omega
        clear HAL hm4
        go_wp2_with fail
        go_roundw
        case rel => exact ⟨q + 1, by omega, by go_num, trivial⟩
        case measure => simp [intOf]; omega
    · obtain rfl : q = n := by omega
      rcases HM.out with hm1 | hm2 | hm4
      · have q1 : ((m : Int) == 1) = true := by simp; omega
        clear hm1
        go_wp2_with fail
        go_ret
        exact ⟨rfl, HB.out⟩
      · have q1 : ((m : Int) == 1) = false := by simp; omega
        have q2 : ((m : Int) == 2) = true := by simp; omega
        clear hm2
        go_wp2_with fail
        go_ret
        exact ⟨rfl, HB.out⟩
      · have q1 : ((m : Int) == 1) = false := by simp; omega
        have q2 : ((m : Int) == 2) = false := by simp; omega
        have q4 : ((m : Int) == 4) = true := by simp; omega
        clear hm4
        go_wp2_with fail
        go_ret
        exact ⟨rfl, HB.out⟩
end Go.Proofs.Ythkiajighmhdoaa
