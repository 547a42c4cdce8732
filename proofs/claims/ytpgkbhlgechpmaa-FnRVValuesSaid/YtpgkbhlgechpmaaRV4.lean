/-
  RVValue, walked: it computes value. No condition beyond the bounds that each theorem states.
-/
import Derived.Test.YtpgkbhlgechpmaaRV3
namespace Go.Proofs.Ytpgkbhlgechpmaa
open Go.RowKit Go.Qz Go.Qz.RV

theorem value_le (m : Nat) (hm : m ≤ 9) : ∀ (l : List Nat) (o : Bool), (∀ x ∈ l, x ≤ 9) → l.length ≤ 6 → value l m o ≤ l.length * 480000
  | [], o, _, _ => by simp [value]
  | w :: t, o, h, hl => by
    have h1 := value_le m hm t (o && decide (1 < w)) (fun x hx => h x (by simp [hx])) (by simp at hl; omega)
    have h2 := sumTo_le (fun v => many t.length (w + total t - v) m (o && decide (1 < v))) (9 ^ 5) (w - 1) (fun j _ _ => Nat.le_trans (many_le _ _ _ _ hm) (Nat.pow_le_pow_right (by omega) (by simp at hl; omega)))
    have h3 : w ≤ 9 := h w (by simp)
    have h4 : (w - 1) * 9 ^ 5 ≤ 8 * 9 ^ 5 := Nat.mul_le_mul (by omega) (Nat.le_refl _)
    simp only [value, List.length_cons, Nat.add_mul]
    omega
theorem value_drop (l : List Nat) (k m : Nat) (o : Bool) (h : k < l.length) :
    value (l.drop k) m o = sumTo (fun v => many (l.length - k - 1) (total (l.drop k) - v) m (o && decide (1 < v))) (nth l k - 1) + value (l.drop (k + 1)) m (o && decide (1 < nth l k)) := by
  rw [drop_nth h]
  simp only [value, total, List.length_drop]
  rw [show l.length - (k + 1) = l.length - k - 1 from by omega]

set_option maxRecDepth 100000 in
set_option maxHeartbeats 1600000 in
theorem rvValue (l : List Nat) (m : Nat) (o : Bool) (A : Option Addr) (c : Nat) (w : World) (hm : m ≤ 9) (hl : ∀ x ∈ l, 1 ≤ x ∧ x ≤ 9) (hn : l.length ≤ 6) (h : Ws w A l) :
    Calls Try.prog 16 #[.slice A l.length c, .int .i64 m, .bool o] w fun e w' => e = .returned (.int .i64 (value l m o : Nat)) ∧ w = w' := by
  have hT := total_le l (fun x hx => (hl x hx).2)
  have hV := value_le m hm l o (fun x hx => (hl x hx).2) hn
  have HV : Hid (value l m o = value l m o) := rfl
  generalize hTT : value l m o = T at hV ⊢
  go_enter Try.func16, Try.ntmps16
  go_wp2_with fail
  refine (rvSum l A c _ (by omega) (by omega) h).mono ?_
  rintro r w' ⟨rfl, rfl⟩
  go_wp2_with fail
  go_loop [2, 7, 8, 16] (fun one out left i => ∃ (k : Nat) (o' : Bool), k ≤ l.length ∧ i = .int .i64 k ∧ one = .bool o' ∧ left = .int .i64 (total (l.drop k) : Nat) ∧ out = .int .i64 ((T - value (l.drop k) m o' : Nat) : Int) ∧ value (l.drop k) m o' ≤ T) (fun _ _ _ i => l.length - (intOf i).toNat)
  case atStart => exact ⟨0, o, by omega, rfl, rfl, rfl, by simp [hTT], by simp [hTT]⟩
  case round =>
    obtain ⟨k, o', hk, rfl, rfl, rfl, rfl, hle⟩ := hrel
    clear hTT
    by_cases hlt : k < l.length
    · obtain ⟨b, off, rfl, hb, hc⟩ := h (by omega)
      have hck := hc k hlt; dsimp only at hck
      have h1 := total_drop l k hlt
      have h2 := total_drop_le l k
      have h3 := value_drop l k m o' hlt
      have hx := hl _ (nth_mem hlt)
      clear hc h
      obtain ⟨G, hG⟩ : ∃ G : Nat → Nat, G = fun v => many (l.length - k - 1) (total (l.drop k) - v) m (o' && decide (1 < v)) := ⟨_, rfl⟩
      have hTl : total (l.drop k) ≤ 54 := by omega
      have HG : ∀ (j : Nat) (E S : Int) (O : Bool) (w' : World), E = ((l.length - k - 1 : Nat) : Int) → S = ((total (l.drop k) - (j + 1) : Nat) : Int) → O = (o' && decide (1 < j + 1)) →
          Calls Try.prog 32 #[.int .i64 E, .int .i64 S, .int .i64 m, .bool O] w' fun r w'' => r = .returned (.int .i64 (G (j + 1) : Nat)) ∧ w' = w'' := by
        intro j E S O w' a b c
        rw [hG]
        exact rvMany m hm _ _ _ E S m O w' (by omega) (by omega) a b rfl c
      have hGl : ∀ j, j < nth l k - 1 → G (j + 1) + sumTo G j ≤ 3000000 := by
        intro j hj
        have := sumTo_mono G (j + 1) (nth l k - 1) hj
        rw [← hG] at h3
        simp only [sumTo] at this
        omega
      rw [← hG] at h3
      have HG := Lib.hid HG
      have HGl := Lib.hid hGl
      have HR : Hid (∀ o'', o'' = (o' && decide (1 < nth l k)) → value (l.drop (k + 1)) m o'' ≤ T ∧ T - value (l.drop k) m o' + sumTo G (nth l k - 1) = T - value (l.drop (k + 1)) m o'') := Lib.hid fun o'' ho => by
        rw [ho]; omega
      have HL := Lib.hid h1
      have hle0 : sumTo G (nth l k - 1) ≤ T := by omega
      clear hG h3 hGl h1
      have hV0 : T - value (l.drop k) m o' ≤ T := by omega
      clear hle
      generalize T - value (l.drop k) m o' = V0 at *
      have hLx : nth l k ≤ total (l.drop k) := by have := HL.out; omega
      generalize hL : total (l.drop k) = L at *
      clear hL
      generalize nth l k = x at *
      go_wp2_with fail
      go_loop [7, 11] (fun out v => ∃ j : Nat, j ≤ x - 1 ∧ v = .int .i64 ((j + 1 : Nat) : Int) ∧ out = .int .i64 ((V0 + sumTo G j : Nat) : Int)) (fun _ v => x - (intOf v).toNat)
      case atStart => exact ⟨0, by omega, rfl, rfl⟩
      case round =>
        obtain ⟨j, hj, rfl, rfl⟩ := hrel
        by_cases hjx : j < x - 1
        · have h5 := HGl.out j hjx
          have HS : Hid (sumTo G (j + 1) = sumTo G j + G (j + 1)) := Lib.hid rfl
          cases o'
          all_goals
            go_wp2_with fail
            refine (HG.out j _ _ _ _ (by omega) (by omega) (by rw [Bool.eq_iff_iff]; simp <;> omega)).mono ?_
            rintro r w' ⟨rfl, rfl⟩
            go_wp2_with fail
            go_round
            case rel => exact ⟨j + 1, by omega, by go_num, by rw [HS.out]; go_num⟩
            case measure => simp [intOf]; omega
        · obtain rfl : j = x - 1 := by omega
          by_cases hx1 : 1 < x
          all_goals
            cases o'
            all_goals
              go_wp2_with fail
              go_round
              case rel => 
                have g := HR.out
                refine ⟨k + 1, _, by omega, by go_num, rfl, by have := HL.out; congr 1; omega, ?_, ?_⟩
                · exact congrArg (fun n : Nat => Value.int .i64 (n : Int)) (g _ (by rw [Bool.eq_iff_iff]; simp <;> omega)).2
                · exact (g _ (by rw [Bool.eq_iff_iff]; simp <;> omega)).1
              case measure => simp [intOf]; omega
    · obtain rfl : k = l.length := by omega
      go_wp2_with fail
      go_ret
      simp [value]
end Go.Proofs.Ytpgkbhlgechpmaa
