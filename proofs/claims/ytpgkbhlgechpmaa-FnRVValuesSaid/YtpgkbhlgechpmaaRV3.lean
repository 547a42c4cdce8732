/-
  RVSum and rvMany, walked: they compute total and many. No condition beyond the bounds that each theorem states.
-/
import Derived.Test.YtpgkbhlgechpmaaRows
import Derived.Test.YtpgkbhlgechpmaaBase
import Derived.Test.YtpgkbhlgechpmaaRVP
namespace Go.Proofs.Ytpgkbhlgechpmaa
open Go.RowKit Go.Qz Go.Qz.RV

theorem total_drop (l : List Nat) (k : Nat) (h : k < l.length) : total (l.drop k) = nth l k + total (l.drop (k + 1)) := by
  rw [drop_nth h]; rfl
theorem total_le (l : List Nat) (h : ∀ x ∈ l, x ≤ 9) : total l ≤ 9 * l.length := by
  induction l with
  | nil => simp [total]
  | cons a t ih => simp only [total, List.length_cons]; have := ih (fun x hx => h x (by simp [hx])); have := h a (by simp); omega
theorem total_drop_le (l : List Nat) (k : Nat) : total (l.drop k) ≤ total l := by
  induction l generalizing k with
  | nil => simp
  | cons a t ih =>
    cases k with
    | zero => simp
    | succ k => simp only [List.drop_succ_cons, total]; have := ih k; omega

/-- A list of small numbers in memory. -/
abbrev Ws (w : World) (A : Option Addr) (l : List Nat) : Prop := Rd w A l.length (fun j => .int .i64 ((nth l j : Nat) : Int))

set_option maxRecDepth 100000 in
set_option maxHeartbeats 800000 in
theorem rvSum (l : List Nat) (A : Option Addr) (c : Nat) (w : World) (hl : total l ≤ 1000000) (hn : l.length ≤ 1000) (h : Ws w A l) :
    Calls Try.prog 30 #[.slice A l.length c] w fun e w' => e = .returned (.int .i64 (total l : Nat)) ∧ w = w' := by
  go_enter Try.func30, Try.ntmps30
  go_wp2
  go_loop [3, 8] (fun s i => ∃ k : Nat, k ≤ l.length ∧ i = .int .i64 k ∧ s = .int .i64 ((total l - total (l.drop k) : Nat) : Int)) (fun _ i => l.length - (intOf i).toNat)
  case atStart => exact ⟨0, by omega, rfl, by simp⟩
  case round =>
    obtain ⟨k, hk, rfl, rfl⟩ := hrel
    by_cases hlt : k < l.length
    · obtain ⟨b, off, rfl, hb, hc⟩ := h (by omega)
      have hck := hc k hlt; dsimp only at hck
      have h1 := total_drop l k hlt
      have h2 := total_drop_le l k
      have H1 := Lib.hid h1; clear h1
      clear hc h
      have hb1 : nth l k ≤ 1000000 := by have := H1.out; omega
      generalize nth l k = x at *
      go_wp2
      go_round
      case rel => exact ⟨k + 1, by omega, by go_num, by have := H1.out; congr 1; omega⟩
      case measure => simp [intOf]; omega
    · obtain rfl : k = l.length := by omega
      go_wp2
      go_ret
      simp [total]


theorem sumTo_le (f : Nat → Nat) (b : Nat) : ∀ k, (∀ j, 1 ≤ j → j ≤ k → f j ≤ b) → sumTo f k ≤ k * b
  | 0, _ => by simp [sumTo]
  | k + 1, h => by
    have h1 := sumTo_le f b k (fun j h1 h2 => h j h1 (by omega))
    have h2 := h (k + 1) (by omega) (by omega)
    simp only [sumTo, Nat.add_mul]; omega
theorem many_le : ∀ (e s m : Nat) (o : Bool), m ≤ 9 → many e s m o ≤ 9 ^ e
  | 0, s, m, o, _ => by unfold many; split <;> omega
  | e + 1, s, m, o, h => by
    rw [many, Nat.pow_succ]
    have h1 := sumTo_le (fun w => many e (s - w) m (o && decide (1 < w))) (9 ^ e) (min m s) (fun j _ _ => many_le e _ m _ h)
    have h2 : min m s * 9 ^ e ≤ 9 * 9 ^ e := Nat.mul_le_mul (by omega) (Nat.le_refl _)
    omega

/-- f 1 + .. + f k is no more than with more terms. -/
theorem sumTo_mono (f : Nat → Nat) (k : Nat) : ∀ n, k ≤ n → sumTo f k ≤ sumTo f n
  | 0, h => by obtain rfl : k = 0 := by omega
               exact Nat.le_refl _
  | n + 1, h => by
    rcases Nat.lt_or_ge k (n + 1) with h1 | h1
    · have := sumTo_mono f k n (by omega); simp only [sumTo]; omega
    · obtain rfl : k = n + 1 := by omega
      exact Nat.le_refl _

set_option maxRecDepth 100000 in
set_option maxHeartbeats 1600000 in
theorem rvMany (m : Nat) (hm : m ≤ 9) : ∀ (e s : Nat) (o : Bool) (E S M : Int) (O : Bool) (w : World), e ≤ 6 → s ≤ 60 → E = e → S = s → M = m → O = o →
    Calls Try.prog 32 #[.int .i64 E, .int .i64 S, .int .i64 M, .bool O] w fun r w' => r = .returned (.int .i64 (many e s m o : Nat)) ∧ w = w'
  | 0, s, o, E, S, M, O, w, he, hs, e1, e2, e3, e4 => by
    subst e1 e2 e3 e4
    by_cases h0 : s = 0
    · subst h0
      cases O
      all_goals
        go_enter Try.func32, Try.ntmps32
        go_wp2_with fail
        go_ret
        exact ⟨rfl, rfl⟩
    · have hb : ((s : Int) == 0) = false := by simp; omega
      go_enter Try.func32, Try.ntmps32
      go_wp2_with fail
      go_ret
      simp [many, h0]
  | e + 1, s, o, E, S, M, O, w, he, hs, e1, e2, e3, e4 => by
    subst e2 e3 e4
    have hb : (E == 0) = false := by simp; omega
    have hE0 : 1 ≤ E := by omega
    have hE1 : E ≤ 6 := by omega
    have HE := Lib.hid e1; clear e1
    have ih := fun s' o' E' S' M' O' w' h => rvMany m hm e s' o' E' S' M' O' w' (by omega) h
    have IH := Lib.hid ih
    clear ih
    obtain ⟨F, hF⟩ : ∃ F : Nat → Nat, F = fun w => many e (s - w) m (O && decide (1 < w)) := ⟨_, rfl⟩
    have HT : sumTo F (min m s) = many (e + 1) s m O := by rw [hF]; rfl
    have HTl : sumTo F (min m s) ≤ 600000 := by
      rw [HT]
      have h4 := many_le (e + 1) s m O hm
      have hp : 9 ^ (e + 1) ≤ 9 ^ 6 := Nat.pow_le_pow_right (by omega) (by omega)
      omega
    have HF : ∀ (k : Nat) (S' M' : Int) (O' : Bool) (w' : World), S' = ((s - (k + 1) : Nat) : Int) → M' = m → O' = (O && decide (1 < k + 1)) →
          Calls Try.prog 32 #[.int .i64 (E - 1), .int .i64 S', .int .i64 M', .bool O'] w' fun r w'' => r = .returned (.int .i64 (F (k + 1) : Nat)) ∧ w' = w'' := by
      intro k S' M' O' w' a b c
      rw [hF]
      exact IH.out _ _ _ S' M' O' w' (by omega) (by have := HE.out; omega) a b c
    have HFl : ∀ k, k < min m s → F (k + 1) + sumTo F k ≤ 600000 := by
      intro k hk
      have := sumTo_mono F (k + 1) (min m s) hk
      simp only [sumTo] at this
      omega
    have HT := Lib.hid HT
    have HF := Lib.hid HF
    have HFl := Lib.hid HFl
    clear hF
    go_enter Try.func32, Try.ntmps32
    go_wp2_with fail
    go_loop [9, 10] (fun t i => ∃ k : Nat, k ≤ min m s ∧ i = .int .i64 ((k + 1 : Nat) : Int) ∧ t = .int .i64 (sumTo F k : Nat)) (fun _ i => 100 - (intOf i).toNat)
    case atStart => exact ⟨0, by omega, rfl, rfl⟩
    case round =>
      obtain ⟨k, hk, rfl, rfl⟩ := hrel
      by_cases hlt : k < min m s
      · have h1 : k < m := by omega
        have h2 : k < s := by omega
        have h3 := HFl.out k hlt
        have HS : Hid (sumTo F (k + 1) = sumTo F k + F (k + 1)) := Lib.hid rfl
        cases O
        all_goals
          go_wp2_with fail
          refine (HF.out k _ _ _ _ (by omega) rfl (by rw [Bool.eq_iff_iff]; simp <;> omega)).mono ?_
          rintro r w' ⟨rfl, rfl⟩
          go_wp2_with fail
          go_round
          case rel => exact ⟨k + 1, by omega, by go_num, by rw [HS.out]; go_num⟩
          case measure => simp [intOf]; omega
      · obtain rfl : k = min m s := by omega
        by_cases h1 : min m s < m
        · have h2 : s < min m s + 1 := by omega
          go_wp2_with fail
          go_ret
          rw [← HT.out]
          exact ⟨rfl, rfl⟩
        · have h2 : m < min m s + 1 := by omega
          go_wp2_with fail
          go_ret
          rw [← HT.out]
          exact ⟨rfl, rfl⟩
end Go.Proofs.Ytpgkbhlgechpmaa
