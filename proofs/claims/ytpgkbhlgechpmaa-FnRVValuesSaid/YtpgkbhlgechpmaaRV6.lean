/-
  RSSUtils_getRSSvalue, walked: it computes goval. No condition beyond the bounds that each theorem states.
-/
import Derived.Test.YtpgkbhlgechpmaaRV5
namespace Go.Proofs.Ytpgkbhlgechpmaa
open Go.RowKit Go.Qz Go.Qz.RV

theorem total_ge : ∀ (l : List Nat), (∀ x ∈ l, 1 ≤ x) → l.length ≤ total l
  | [], _ => by simp
  | a :: t, h => by
    have h1 := total_ge t (fun x hx => h x (by simp [hx]))
    have h2 := h a (by simp)
    simp only [total, List.length_cons]; omega
theorem goval_drop (l : List Nat) (k m : Nat) (o : Bool) (h : k + 1 < l.length) :
    goval (l.drop k) m o = sumToI (fun v => term (l.length - k - 1) (total (l.drop k) - v) m (o && decide (1 < v))) (nth l k - 1) + goval (l.drop (k + 1)) m (o && decide (1 < nth l k)) := by
  rw [drop_nth (show k < l.length by omega), drop_nth h]
  have : (l.drop (k + 1 + 1)).length + 1 = l.length - k - 1 := by simp; omega
  simp only [goval, this, total]
theorem less_le (r s m : Nat) (hr : r ≤ 5) (hs : s ≤ 60) : ∀ k, less r s m k ≤ k * 60 ^ 3
  | 0 => by simp [less]
  | k + 1 => by
    have h1 := less_le r s m hr hs k
    have h2 : cmb (s - (s - (r - 1) - k) - 1) (r - 2) ≤ 60 ^ 3 :=
      Nat.le_trans (cmb_le _ _) (Nat.le_trans (Nat.pow_le_pow_left (by omega) _) (Nat.pow_le_pow_right (by omega) (by omega)))
    simp only [less, Nat.add_mul]; omega
theorem cmb_le4 (n k : Nat) (h : n ≤ 60) (hk : k ≤ 4) : cmb n k ≤ 12960000 :=
  Nat.le_trans (cmb_le _ _) (Nat.le_trans (Nat.pow_le_pow_left h _) (Nat.pow_le_pow_right (by omega) hk))
theorem term_bd (r s m : Nat) (b : Bool) (hr : r ≤ 5) (hs : s ≤ 60) : -100000000 ≤ term r s m b ∧ term r s m b ≤ 20000000 := by
  have h1 := cmb_le4 (s - 1) (r - 1) (by omega) (by omega)
  have h2 := cmb_le4 (s - (r + 1)) (r - 1) (by omega) (by omega)
  have h3 := less_le r s m hr hs (s - (r - 1) - m)
  have h4 : (s - (r - 1) - m) * 60 ^ 3 ≤ 60 * 60 ^ 3 := Nat.mul_le_mul (by omega) (Nat.le_refl _)
  have h5 : less r s m (s - (r - 1) - m) * r ≤ 12960000 * 5 := Nat.mul_le_mul (by omega) hr
  have h6 : (less r s m (s - (r - 1) - m) : Int) * r ≤ 12960000 * 5 := by rw [← Int.natCast_mul]; omega
  have h7 : 0 ≤ (less r s m (s - (r - 1) - m) : Int) * r := Int.mul_nonneg (by omega) (by omega)
  unfold term
  dsimp only
  split <;> split <;> (try split) <;> omega

theorem sumToI_bd (f : Nat → Int) (b : Nat) : ∀ k, (∀ j, -(b : Int) ≤ f j ∧ f j ≤ b) → -((k * b : Nat) : Int) ≤ sumToI f k ∧ sumToI f k ≤ ((k * b : Nat) : Int)
  | 0, _ => by simp [sumToI]
  | k + 1, h => by
    have h1 := sumToI_bd f b k h
    have h2 := h (k + 1)
    simp only [sumToI, Nat.add_mul]; omega
theorem goval_bd' (m B : Nat) (hB : ∀ r s b, r ≤ 5 → s ≤ 60 → -(B : Int) ≤ term r s m b ∧ term r s m b ≤ B) : ∀ (l : List Nat) (o : Bool), (∀ x ∈ l, x ≤ 9) → l.length ≤ 6 →
    -(((l.length * (8 * B) : Nat)) : Int) ≤ goval l m o ∧ goval l m o ≤ ((l.length * (8 * B) : Nat) : Int)
  | [], _, _, _ => by simp [goval]
  | [_], _, _, _ => by simp only [goval]; omega
  | w :: x :: t, o, h, hl => by
    have h1 := goval_bd' m B hB (x :: t) (o && decide (1 < w)) (fun y hy => h y (by simp [hy])) (by simp at hl ⊢; omega)
    have h0 := total_le (x :: t) (fun y hy => h y (by simp [hy]))
    have hw := h w (by simp)
    have h2 := sumToI_bd (fun v => term (t.length + 1) (w + total (x :: t) - v) m (o && decide (1 < v))) B (w - 1) (fun j => hB _ _ _ (by simp at hl; omega) (by simp at hl h0; omega))
    have h3 : (w - 1) * B ≤ 8 * B := Nat.mul_le_mul (by omega) (Nat.le_refl _)
    simp only [goval]
    simp only [List.length_cons, Nat.add_mul] at h1 ⊢
    generalize sumToI _ _ = a at h2 ⊢
    generalize goval _ _ _ = b at h1 ⊢
    omega
theorem goval_bd (m : Nat) (l : List Nat) (o : Bool) (h : ∀ x ∈ l, x ≤ 9) (hl : l.length ≤ 6) : -10000000000 ≤ goval l m o ∧ goval l m o ≤ 10000000000 := by
  have h1 := goval_bd' m 100000000 (fun r s b hr hs => by have := term_bd r s m b hr hs; omega) l o h hl
  omega
theorem Nat.pos_pow_of_pos_ (k : Nat) : 0 < 2 ^ k := Nat.pow_pos (by decide)
theorem maskAll : ((List.range 5).all fun k => (List.range 16).all fun M => !decide (M < 2 ^ k) || (decide (bits BinOp.or IntKind.u64 (M : Int) (IntKind.u64.wrap (2 ^ k)) = ((M + 2 ^ k : Nat) : Int)) &&
    decide (bits BinOp.andNot IntKind.u64 ((M + 2 ^ k : Nat) : Int) (IntKind.u64.wrap (2 ^ k)) = (M : Int)) && decide (bits BinOp.andNot IntKind.u64 (M : Int) (IntKind.u64.wrap (2 ^ k)) = (M : Int)))) = true := by decide +kernel
theorem maskBits (k M : Nat) (hk : k ≤ 4) (hM : M < 2 ^ k) : bits BinOp.or IntKind.u64 (M : Int) (IntKind.u64.wrap (2 ^ k)) = ((M + 2 ^ k : Nat) : Int) ∧
    bits BinOp.andNot IntKind.u64 ((M + 2 ^ k : Nat) : Int) (IntKind.u64.wrap (2 ^ k)) = (M : Int) ∧ bits BinOp.andNot IntKind.u64 (M : Int) (IntKind.u64.wrap (2 ^ k)) = (M : Int) := by
  have h1 : 2 ^ k ≤ 2 ^ 4 := Nat.pow_le_pow_right (by omega) hk
  have h := List.all_eq_true.1 (List.all_eq_true.1 maskAll k (by simp; omega)) M (by simp; omega)
  simpa [hM, and_assoc] using h

set_option maxRecDepth 100000 in
set_option maxHeartbeats 1600000 in
theorem goRSS (l : List Nat) (m : Nat) (o : Bool) (A : Option Addr) (c : Nat) (w : World) (hm : m ≤ 9) (hl : ∀ x ∈ l, 1 ≤ x ∧ x ≤ 9) (hn : l.length ≤ 6) (hn1 : 1 ≤ l.length) (h : Ws w A l) :
    Calls Try.prog 31 #[.slice A l.length c, .int .i64 m, .bool o] w fun e w' => e = .returned (.int .i64 (goval l m o)) ∧ w = w' := by
  have hT := total_le l (fun x hx => (hl x hx).2)
  generalize hTT : goval l m o = T
  have hTT := Lib.hid hTT
  go_enter Try.func31, Try.ntmps31
  go_wp2_with fail
  go_loop [7, 20] (fun s i => ∃ k : Nat, k ≤ l.length ∧ i = .int .i64 k ∧ s = .int .i64 ((total l - total (l.drop k) : Nat) : Int)) (fun _ i => l.length - (intOf i).toNat)
  case atStart => exact ⟨0, by omega, rfl, by simp⟩
  case round =>
    obtain ⟨k, hk, rfl, rfl⟩ := hrel
    by_cases hlt : k < l.length
    · obtain ⟨b, off, rfl, hb, hc⟩ := h (by omega)
      have hck := hc k hlt; dsimp only at hck
      have h1 := total_drop l k hlt
      have h2 := total_drop_le l k
      have hx := hl _ (nth_mem hlt)
      have H1 := Lib.hid h1; clear h1
      clear hc h
      generalize nth l k = x at *
      go_wp2_with fail
      go_round
      case rel => exact ⟨k + 1, by omega, by go_num, by have := H1.out; congr 1; omega⟩
      case measure => simp [intOf]; omega
    · obtain rfl : k = l.length := by omega
      go_wp2_with fail
      obtain ⟨b, off, rfl, hb, hc⟩ := h (by omega)
      have HC := Lib.hid hc; clear hc
      go_loop [7, 10, 11, 13] (fun n v mk i => ∃ (k M : Nat) (b' : Bool), k < l.length ∧ i = .int .i64 k ∧ n = .int .i64 (total (l.drop k) : Nat) ∧ mk = .int .u64 M ∧ M < 2 ^ k ∧ b' = (o && decide (M = 0)) ∧ v = .int .i64 (T - goval (l.drop k) m b')) (fun _ _ _ i => l.length - (intOf i).toNat)
      case atStart => exact ⟨0, 0, o, by omega, rfl, by simp [total], rfl, by simp, by simp, by simp [hTT.out]⟩
      case round =>
        obtain ⟨k, M, b', hk, rfl, rfl, rfl, hM, hb', rfl⟩ := hrel
        by_cases hlt : k + 1 < l.length
        · have hck := HC.out k hk; dsimp only at hck
          have h1 := total_drop l k hk
          have h2 := total_drop_le l k
          have h3 := goval_drop l k m b' hlt
          have hx := hl _ (nth_mem hk)
          have hrest : l.length - k - 1 ≤ total (l.drop (k + 1)) := by
            have := total_ge (l.drop (k + 1)) (fun x hx => (hl x (List.mem_of_mem_drop hx)).1)
            simp at this; omega
          obtain ⟨F, hF⟩ : ∃ F : Nat → Int, F = fun v => term (l.length - k - 1) (total (l.drop k) - v) m (b' && decide (1 < v)) := ⟨_, rfl⟩
          rw [← hF] at h3
          have HL := Lib.hid h1
          have hLx : nth l k + (l.length - k - 1) ≤ total (l.drop k) := by omega
          have hL54 : total (l.drop k) ≤ 54 := by omega
          have HF := Lib.hid hF
          have H3 := Lib.hid h3
          -- the mask's bits
          obtain ⟨hp1, hp2, hp3⟩ := maskBits k M (by omega) hM
          obtain ⟨z, hz⟩ : ∃ z : Bool, z = decide (M = 0) := ⟨_, rfl⟩
          rw [← hz] at hb'
          obtain ⟨MM, hM0, hMs⟩ : ∃ MM : Nat → Nat, MM 0 = M + 2 ^ k ∧ ∀ j, MM (j + 1) = M := ⟨fun j => if j = 0 then M + 2 ^ k else M, rfl, fun j => by simp⟩
          have hMl : ∀ j, MM j < 2 ^ (k + 1) := by
            intro j
            rw [Nat.pow_succ]
            cases j with
            | zero => rw [hM0]; omega
            | succ j => rw [hMs]; omega
          have hand : ∀ j, bits BinOp.andNot IntKind.u64 ((MM j : Nat) : Int) (IntKind.u64.wrap (2 ^ k)) = ((MM (j + 1) : Nat) : Int) := by
            intro j
            rw [hMs]
            cases j with
            | zero => rw [hM0]; exact hp2
            | succ j => rw [hMs]; exact hp3
          have hmz : ∀ j, (((MM j : Nat) : Int) == 0) = (z && decide (1 < j + 1)) := by
            intro j
            rw [hz]
            cases j with
            | zero =>
              have h0 := Nat.pos_pow_of_pos_ k
              rw [hM0, show (decide (M = 0) && decide (1 < 0 + 1)) = false by simp, beq_eq_false_iff_ne]
              generalize 2 ^ k = p at *
              omega
            | succ j => rw [hMs, Bool.eq_iff_iff]; simp
          rw [← hM0] at hp1
          have hF' : ∀ v, F v = term (l.length - k - 1) (total (l.drop k) - v) m ((o && z) && decide (1 < v)) := by rw [hF, hb']; intro v; rfl
          have HZ := Lib.hid hz
          have HF := Lib.hid hF'
          have H3 : Hid (goval (l.drop k) m b' = sumToI F (nth l k - 1) + goval (l.drop (k + 1)) m (b' && decide (1 < nth l k))) := Lib.hid h3
          have HB := Lib.hid hb'
          have HMM := Lib.hid hM0
          have HMs := Lib.hid hMs
          have HMl := Lib.hid hMl
          have Hand := Lib.hid hand
          have Hmz := Lib.hid hmz
          have HV : -1000000000000 ≤ T - goval (l.drop k) m b' ∧ T - goval (l.drop k) m b' ≤ 1000000000000 := by
            have g1 := goval_bd m l o (fun x hx => (hl x hx).2) hn
            have g2 := goval_bd m (l.drop k) b' (fun x hx => (hl x (List.mem_of_mem_drop hx)).2) (by simp; omega)
            have := hTT.out
            omega
          have HSF : Hid (∀ j, j ≤ nth l k - 1 → -1000000000000 ≤ sumToI F j ∧ sumToI F j ≤ 1000000000000) := Lib.hid fun j hj => by
            have g := sumToI_bd F 100000000 j (fun i => by rw [hF']; have := term_bd (l.length - k - 1) (total (l.drop k) - i) m ((o && z) && decide (1 < i)) (by omega) (by omega); omega)
            omega
          clear hF hF' h3 h1 hrest hb' hp2 hp3 hz hM0 hMs hMl hand hmz hM
          obtain ⟨V0, hV0⟩ : ∃ V0, V0 = T - goval (l.drop k) m b' := ⟨_, rfl⟩
          rw [← hV0] at HV ⊢
          have HGV := Lib.hid hV0
          clear hV0
          generalize total (l.drop k) = L at *
          generalize nth l k = x at *
          go_wp2_with fail
          go_loop [10, 11, 14] (fun v mk e => ∃ j : Nat, j ≤ x - 1 ∧ e = .int .i64 ((j + 1 : Nat) : Int) ∧ mk = .int .u64 (MM j : Nat) ∧ v = .int .i64 (V0 + sumToI F j)) (fun _ _ e => x - (intOf e).toNat)
          case atStart => exact ⟨0, by omega, rfl, rfl, by simp [sumToI]⟩
          case round =>
            obtain ⟨j, hj, rfl, rfl, rfl⟩ := hrel
            by_cases hjx : j < x - 1
            · have hmz := Hmz.out j
              have hand := Hand.out j
              have hml := HMl.out j
              have hsf := HSF.out j (by omega)
              have hsf2 := HSF.out (j + 1) (by omega)
              have Hml := Lib.hid hml
              clear hml
              have Hand' := Lib.hid hand
              clear hand
              obtain ⟨r, hr⟩ : ∃ r, r = l.length - k - 1 := ⟨_, rfl⟩
              obtain ⟨ca, hca⟩ : ∃ ca, ca = cmb (L - (j + 1) - 1) (r - 1) := ⟨_, rfl⟩
              have hcal : ca ≤ 12960000 := by rw [hca]; exact cmb_le4 _ _ (by omega) (by omega)
              obtain ⟨cc, hcc⟩ : ∃ cc, cc = cmb (L - (j + 1) - (r + 1)) (r - 1) := ⟨_, rfl⟩
              have hccl : cc ≤ 12960000 := by rw [hcc]; exact cmb_le4 _ _ (by omega) (by omega)
              have HCA : Hid (∀ N R w, N = ((L - (j + 1) - 1 : Nat) : Int) → R = ((r - 1 : Nat) : Int) → Calls Try.prog 43 #[.int .i64 N, .int .i64 R] w fun e w' => e = .returned (.int .i64 (ca : Nat)) ∧ w = w') :=
                Lib.hid fun N R w a b => by rw [hca]; exact combins _ _ N R w (by omega) (by omega) (by omega) a b
              have HCC : Hid (r + r ≤ L - (j + 1) → ∀ N R w, N = ((L - (j + 1) - (r + 1) : Nat) : Int) → R = ((r - 1 : Nat) : Int) → Calls Try.prog 43 #[.int .i64 N, .int .i64 R] w fun e w' => e = .returned (.int .i64 (cc : Nat)) ∧ w = w') :=
                Lib.hid fun hh N R w a b => by rw [hcc]; exact combins _ _ N R w (by omega) (by omega) (by omega) a b
              have hF1 := HF.out (j + 1)
              rw [← hr] at hF1
              simp only [term, ← hca, ← hcc] at hF1
              have hsucc : Hid (sumToI F (j + 1) = sumToI F j + F (j + 1)) := Lib.hid rfl
              generalize sumToI F j = S0 at *
              have hFl : F (j + 1) ≤ 20000000 ∧ -100000000 ≤ F (j + 1) := by
                have := term_bd r (L - (j + 1)) m ((o && z) && decide (1 < j + 1)) (by omega) (by omega)
                rw [HF.out, ← hr]; omega
              generalize F (j + 1) = f1 at *
              have hless := less_le r (L - (j + 1)) m (by omega) (by omega)
              have HR := Lib.hid hr
              have hr1 : 1 ≤ r := by omega
              have hr5 : r ≤ 5 := by omega
              have hrk : (l.length : Int) = k + 1 + r := by omega
              have HRK := Lib.hid hrk
              have hsr : r + 1 ≤ L - (j + 1) := by omega
              clear hrk hr hca hcc
              have hFa : Hid ((o = true ∧ (z && decide (1 < j + 1)) = true ∧ r + r ≤ L - (j + 1)) → f1 = (if 1 < r then ((ca : Int) - cc) - (less r (L - (j + 1)) m (L - (j + 1) - (r - 1) - m) : Int) * r else if m < L - (j + 1) then ((ca : Int) - cc) - 1 else ((ca : Int) - cc))) :=
                Lib.hid fun ⟨h1, h2, h3⟩ => by rw [hF1, if_pos (show (o && z && decide (1 < j + 1)) = true ∧ r ≤ L - (j + 1) - r from ⟨by rw [Bool.and_assoc, h1, Bool.true_and]; exact h2, by omega⟩)]
              have hFb : Hid (¬ (o = true ∧ (z && decide (1 < j + 1)) = true ∧ r + r ≤ L - (j + 1)) → f1 = (if 1 < r then (ca : Int) - (less r (L - (j + 1)) m (L - (j + 1) - (r - 1) - m) : Int) * r else if m < L - (j + 1) then (ca : Int) - 1 else (ca : Int))) :=
                Lib.hid fun hh => by
                  rw [hF1, if_neg (show ¬((o && z && decide (1 < j + 1)) = true ∧ r ≤ L - (j + 1) - r) from fun hx => hh ?_)]
                  obtain ⟨h1, h2⟩ := hx
                  rw [Bool.and_assoc, Bool.and_eq_true] at h1
                  exact ⟨h1.1, h1.2, by omega⟩
              have HLS := Lib.hid hless
              clear hF1 hless
              by_cases hfl : o = true ∧ (z && decide (1 < j + 1)) = true ∧ r + r ≤ L - (j + 1)
              · have hf := hFa.out hfl
                have HFF := Lib.hid hf
                clear hf hFa hFb
                obtain ⟨rfl, hz1, hge⟩ := hfl
                rw [hz1] at hmz
                have hge2 : (l.length : Int) - k - 1 ≤ (L : Int) - (j + 1) - (l.length - k - 1) := by have := HRK.out; omega
                go_wp2_with fail
                refine (HCA.out _ _ _ (by omega) (by have := HRK.out; omega)).mono ?_
                rintro r w' ⟨rfl, rfl⟩
                go_wp2_with fail
                refine (HCC.out hge _ _ _ (by have := HRK.out; omega) (by have := HRK.out; omega)).mono ?_
                rintro r w' ⟨rfl, rfl⟩
                by_cases hr2 : 1 < r
                · have hr3 : (1 : Int) < l.length - k - 1 := by have := HRK.out; omega
                  go_wp2_with fail
                  go_loop [16, 17] (fun lv mx => ∃ (i : Nat) (q : Int), i ≤ L - (j + 1) - (r - 1) - m ∧ mx = .int .i64 q ∧ q = (L : Int) - (j + 1) - (r - 1) - i ∧ lv = .int .i64 (less r (L - (j + 1)) m i : Nat)) (fun _ mx => (intOf mx).toNat)
                  case atStart => exact ⟨0, _, by omega, rfl, by have := HRK.out; omega, rfl⟩
                  case round =>
                    obtain ⟨i, q, hi, rfl, hq, rfl⟩ := hrel
                    have HQ := Lib.hid hq
                    have hq0 : 0 ≤ q := by omega
                    have hq1 : q ≤ 60 := by omega
                    by_cases hmx : (m : Int) < q
                    · have hil : i < L - (j + 1) - (r - 1) - m := by omega
                      have hls := HLS.out i
                      have hls2 : i * 60 ^ 3 ≤ 60 * 60 ^ 3 := Nat.mul_le_mul (by omega) (Nat.le_refl _)
                      have hls3 : less r (L - (j + 1)) m i ≤ 12960000 := by omega
                      have hce : Hid (less r (L - (j + 1)) m (i + 1) = less r (L - (j + 1)) m i + cmb (L - (j + 1) - (L - (j + 1) - (r - 1) - i) - 1) (r - 2)) := Lib.hid rfl
                      have hcl := cmb_le4 (L - (j + 1) - (L - (j + 1) - (r - 1) - i) - 1) (r - 2) (by omega) (by omega)
                      have HCD := fun N R w a b => combins (L - (j + 1) - (L - (j + 1) - (r - 1) - i) - 1) (r - 2) N R w (by omega) (by omega) (by omega) a b
                      have HCD := Lib.hid HCD
                      generalize cmb (L - (j + 1) - (L - (j + 1) - (r - 1) - i) - 1) (r - 2) = cd at *
                      generalize less r (L - (j + 1)) m i = lv at *
                      clear hq hls hls2
                      go_wp2_with fail
                      refine (HCD.out _ _ _ (by have := HQ.out; omega) (by have := HRK.out; omega)).mono ?_
                      rintro r w' ⟨rfl, rfl⟩
                      go_wp2_with fail
                      go_round
                      case rel => exact ⟨i + 1, _, by omega, rfl, by have := HQ.out; omega, by rw [hce.out]; go_num⟩
                      case measure => simp [intOf]; omega
                    · obtain rfl : i = L - (j + 1) - (r - 1) - m := by omega
                      have hls := HLS.out (L - (j + 1) - (r - 1) - m)
                      have hls2 : (L - (j + 1) - (r - 1) - m) * 60 ^ 3 ≤ 60 * 60 ^ 3 := Nat.mul_le_mul (by omega) (Nat.le_refl _)
                      have hls3 : less r (L - (j + 1)) m (L - (j + 1) - (r - 1) - m) ≤ 12960000 := by omega
                      have hfe := HFF.out
                      rw [if_pos hr2] at hfe
                      have HFE := Lib.hid hfe
                      generalize less r (L - (j + 1)) m (L - (j + 1) - (r - 1) - m) = lv at *
                      have hp1 : (lv : Int) * (l.length - 1 - k) ≤ 12960000 * 5 := by
                        rw [show ((l.length : Int) - 1 - k) = (r : Int) by have := HRK.out; omega, ← Int.natCast_mul]
                        have : lv * r ≤ 12960000 * 5 := Nat.mul_le_mul hls3 hr5
                        omega
                      have hp2 : 0 ≤ (lv : Int) * (l.length - 1 - k) := Int.mul_nonneg (by omega) (by have := HRK.out; omega)
                      have HP : Hid ((lv : Int) * (l.length - 1 - k) = (lv : Int) * r) := Lib.hid (by rw [show ((l.length : Int) - 1 - k) = (r : Int) by have := HRK.out; omega])
                      clear hq hls hls2 hfe
                      go_wp2_with fail
                      rw [Hand'.out]
                      go_round
                      case rel => exact ⟨j + 1, by omega, by go_num, rfl, by have h1 := hsucc.out; have h2 := HFE.out; have h3 := HP.out; congr 1; omega⟩
                      case measure => simp [intOf]; omega
                · obtain rfl : r = 1 := by omega
                  have hr3 : ¬ (1 : Int) < l.length - k - 1 := by have := HRK.out; omega
                  have hfe := HFF.out
                  rw [if_neg hr2] at hfe
                  by_cases hml : m < L - (j + 1)
                  · rw [if_pos hml] at hfe
                    have HFE := Lib.hid hfe
                    clear hfe
                    go_wp2_with fail
                    rw [Hand'.out]
                    go_round
                    case rel => exact ⟨j + 1, by omega, by go_num, rfl, by have h1 := hsucc.out; have h2 := HFE.out; congr 1; omega⟩
                    case measure => simp [intOf]; omega
                  · rw [if_neg hml] at hfe
                    have HFE := Lib.hid hfe
                    clear hfe
                    go_wp2_with fail
                    rw [Hand'.out]
                    go_round
                    case rel => exact ⟨j + 1, by omega, by go_num, rfl, by have h1 := hsucc.out; have h2 := HFE.out; congr 1; omega⟩
                    case measure => simp [intOf]; omega
              · have hf := hFb.out hfl
                have HFF := Lib.hid hf
                clear hf hFa hFb
                cases o
                · clear hfl
                  go_wp2_with fail
                  refine (HCA.out _ _ _ (by omega) (by have := HRK.out; omega)).mono ?_
                  rintro r w' ⟨rfl, rfl⟩
                  by_cases hr2 : 1 < r
                  · have hr3 : (1 : Int) < l.length - k - 1 := by have := HRK.out; omega
                    go_wp2_with fail
                    go_loop [16, 17] (fun lv mx => ∃ (i : Nat) (q : Int), i ≤ L - (j + 1) - (r - 1) - m ∧ mx = .int .i64 q ∧ q = (L : Int) - (j + 1) - (r - 1) - i ∧ lv = .int .i64 (less r (L - (j + 1)) m i : Nat)) (fun _ mx => (intOf mx).toNat)
                    case atStart => exact ⟨0, _, by omega, rfl, by have := HRK.out; omega, rfl⟩
                    case round =>
                      obtain ⟨i, q, hi, rfl, hq, rfl⟩ := hrel
                      have HQ := Lib.hid hq
                      have hq0 : 0 ≤ q := by omega
                      have hq1 : q ≤ 60 := by omega
                      by_cases hmx : (m : Int) < q
                      · have hil : i < L - (j + 1) - (r - 1) - m := by omega
                        have hls := HLS.out i
                        have hls2 : i * 60 ^ 3 ≤ 60 * 60 ^ 3 := Nat.mul_le_mul (by omega) (Nat.le_refl _)
                        have hls3 : less r (L - (j + 1)) m i ≤ 12960000 := by omega
                        have hce : Hid (less r (L - (j + 1)) m (i + 1) = less r (L - (j + 1)) m i + cmb (L - (j + 1) - (L - (j + 1) - (r - 1) - i) - 1) (r - 2)) := Lib.hid rfl
                        have hcl := cmb_le4 (L - (j + 1) - (L - (j + 1) - (r - 1) - i) - 1) (r - 2) (by omega) (by omega)
                        have HCD := fun N R w a b => combins (L - (j + 1) - (L - (j + 1) - (r - 1) - i) - 1) (r - 2) N R w (by omega) (by omega) (by omega) a b
                        have HCD := Lib.hid HCD
                        generalize cmb (L - (j + 1) - (L - (j + 1) - (r - 1) - i) - 1) (r - 2) = cd at *
                        generalize less r (L - (j + 1)) m i = lv at *
                        clear hq hls hls2
                        go_wp2_with fail
                        refine (HCD.out _ _ _ (by have := HQ.out; omega) (by have := HRK.out; omega)).mono ?_
                        rintro r w' ⟨rfl, rfl⟩
                        go_wp2_with fail
                        go_round
                        case rel => exact ⟨i + 1, _, by omega, rfl, by have := HQ.out; omega, by rw [hce.out]; go_num⟩
                        case measure => simp [intOf]; omega
                      · obtain rfl : i = L - (j + 1) - (r - 1) - m := by omega
                        have hls := HLS.out (L - (j + 1) - (r - 1) - m)
                        have hls2 : (L - (j + 1) - (r - 1) - m) * 60 ^ 3 ≤ 60 * 60 ^ 3 := Nat.mul_le_mul (by omega) (Nat.le_refl _)
                        have hls3 : less r (L - (j + 1)) m (L - (j + 1) - (r - 1) - m) ≤ 12960000 := by omega
                        have hfe := HFF.out
                        rw [if_pos hr2] at hfe
                        have HFE := Lib.hid hfe
                        generalize less r (L - (j + 1)) m (L - (j + 1) - (r - 1) - m) = lv at *
                        have hp1 : (lv : Int) * (l.length - 1 - k) ≤ 12960000 * 5 := by
                          rw [show ((l.length : Int) - 1 - k) = (r : Int) by have := HRK.out; omega, ← Int.natCast_mul]
                          have : lv * r ≤ 12960000 * 5 := Nat.mul_le_mul hls3 hr5
                          omega
                        have hp2 : 0 ≤ (lv : Int) * (l.length - 1 - k) := Int.mul_nonneg (by omega) (by have := HRK.out; omega)
                        have HP : Hid ((lv : Int) * (l.length - 1 - k) = (lv : Int) * r) := Lib.hid (by rw [show ((l.length : Int) - 1 - k) = (r : Int) by have := HRK.out; omega])
                        clear hq hls hls2 hfe
                        go_wp2_with fail
                        rw [Hand'.out]
                        go_round
                        case rel => exact ⟨j + 1, by omega, by go_num, rfl, by have h1 := hsucc.out; have h2 := HFE.out; have h3 := HP.out; congr 1; omega⟩
                        case measure => simp [intOf]; omega
                  · obtain rfl : r = 1 := by omega
                    have hr3 : ¬ (1 : Int) < l.length - k - 1 := by have := HRK.out; omega
                    have hfe := HFF.out
                    rw [if_neg hr2] at hfe
                    by_cases hml : m < L - (j + 1)
                    · rw [if_pos hml] at hfe
                      have HFE := Lib.hid hfe
                      clear hfe
                      go_wp2_with fail
                      rw [Hand'.out]
                      go_round
                      case rel => exact ⟨j + 1, by omega, by go_num, rfl, by have h1 := hsucc.out; have h2 := HFE.out; congr 1; omega⟩
                      case measure => simp [intOf]; omega
                    · rw [if_neg hml] at hfe
                      have HFE := Lib.hid hfe
                      clear hfe
                      go_wp2_with fail
                      rw [Hand'.out]
                      go_round
                      case rel => exact ⟨j + 1, by omega, by go_num, rfl, by have h1 := hsucc.out; have h2 := HFE.out; congr 1; omega⟩
                      case measure => simp [intOf]; omega
                · cases hzz : (z && decide (1 < j + 1))
                  · rw [hzz] at hmz
                    clear hfl
                    go_wp2_with fail
                    refine (HCA.out _ _ _ (by omega) (by have := HRK.out; omega)).mono ?_
                    rintro r w' ⟨rfl, rfl⟩
                    by_cases hr2 : 1 < r
                    · have hr3 : (1 : Int) < l.length - k - 1 := by have := HRK.out; omega
                      go_wp2_with fail
                      go_loop [16, 17] (fun lv mx => ∃ (i : Nat) (q : Int), i ≤ L - (j + 1) - (r - 1) - m ∧ mx = .int .i64 q ∧ q = (L : Int) - (j + 1) - (r - 1) - i ∧ lv = .int .i64 (less r (L - (j + 1)) m i : Nat)) (fun _ mx => (intOf mx).toNat)
                      case atStart => exact ⟨0, _, by omega, rfl, by have := HRK.out; omega, rfl⟩
                      case round =>
                        obtain ⟨i, q, hi, rfl, hq, rfl⟩ := hrel
                        have HQ := Lib.hid hq
                        have hq0 : 0 ≤ q := by omega
                        have hq1 : q ≤ 60 := by omega
                        by_cases hmx : (m : Int) < q
                        · have hil : i < L - (j + 1) - (r - 1) - m := by omega
                          have hls := HLS.out i
                          have hls2 : i * 60 ^ 3 ≤ 60 * 60 ^ 3 := Nat.mul_le_mul (by omega) (Nat.le_refl _)
                          have hls3 : less r (L - (j + 1)) m i ≤ 12960000 := by omega
                          have hce : Hid (less r (L - (j + 1)) m (i + 1) = less r (L - (j + 1)) m i + cmb (L - (j + 1) - (L - (j + 1) - (r - 1) - i) - 1) (r - 2)) := Lib.hid rfl
                          have hcl := cmb_le4 (L - (j + 1) - (L - (j + 1) - (r - 1) - i) - 1) (r - 2) (by omega) (by omega)
                          have HCD := fun N R w a b => combins (L - (j + 1) - (L - (j + 1) - (r - 1) - i) - 1) (r - 2) N R w (by omega) (by omega) (by omega) a b
                          have HCD := Lib.hid HCD
                          generalize cmb (L - (j + 1) - (L - (j + 1) - (r - 1) - i) - 1) (r - 2) = cd at *
                          generalize less r (L - (j + 1)) m i = lv at *
                          clear hq hls hls2
                          go_wp2_with fail
                          refine (HCD.out _ _ _ (by have := HQ.out; omega) (by have := HRK.out; omega)).mono ?_
                          rintro r w' ⟨rfl, rfl⟩
                          go_wp2_with fail
                          go_round
                          case rel => exact ⟨i + 1, _, by omega, rfl, by have := HQ.out; omega, by rw [hce.out]; go_num⟩
                          case measure => simp [intOf]; omega
                        · obtain rfl : i = L - (j + 1) - (r - 1) - m := by omega
                          have hls := HLS.out (L - (j + 1) - (r - 1) - m)
                          have hls2 : (L - (j + 1) - (r - 1) - m) * 60 ^ 3 ≤ 60 * 60 ^ 3 := Nat.mul_le_mul (by omega) (Nat.le_refl _)
                          have hls3 : less r (L - (j + 1)) m (L - (j + 1) - (r - 1) - m) ≤ 12960000 := by omega
                          have hfe := HFF.out
                          rw [if_pos hr2] at hfe
                          have HFE := Lib.hid hfe
                          generalize less r (L - (j + 1)) m (L - (j + 1) - (r - 1) - m) = lv at *
                          have hp1 : (lv : Int) * (l.length - 1 - k) ≤ 12960000 * 5 := by
                            rw [show ((l.length : Int) - 1 - k) = (r : Int) by have := HRK.out; omega, ← Int.natCast_mul]
                            have : lv * r ≤ 12960000 * 5 := Nat.mul_le_mul hls3 hr5
                            omega
                          have hp2 : 0 ≤ (lv : Int) * (l.length - 1 - k) := Int.mul_nonneg (by omega) (by have := HRK.out; omega)
                          have HP : Hid ((lv : Int) * (l.length - 1 - k) = (lv : Int) * r) := Lib.hid (by rw [show ((l.length : Int) - 1 - k) = (r : Int) by have := HRK.out; omega])
                          clear hq hls hls2 hfe
                          go_wp2_with fail
                          rw [Hand'.out]
                          go_round
                          case rel => exact ⟨j + 1, by omega, by go_num, rfl, by have h1 := hsucc.out; have h2 := HFE.out; have h3 := HP.out; congr 1; omega⟩
                          case measure => simp [intOf]; omega
                    · obtain rfl : r = 1 := by omega
                      have hr3 : ¬ (1 : Int) < l.length - k - 1 := by have := HRK.out; omega
                      have hfe := HFF.out
                      rw [if_neg hr2] at hfe
                      by_cases hml : m < L - (j + 1)
                      · rw [if_pos hml] at hfe
                        have HFE := Lib.hid hfe
                        clear hfe
                        go_wp2_with fail
                        rw [Hand'.out]
                        go_round
                        case rel => exact ⟨j + 1, by omega, by go_num, rfl, by have h1 := hsucc.out; have h2 := HFE.out; congr 1; omega⟩
                        case measure => simp [intOf]; omega
                      · rw [if_neg hml] at hfe
                        have HFE := Lib.hid hfe
                        clear hfe
                        go_wp2_with fail
                        rw [Hand'.out]
                        go_round
                        case rel => exact ⟨j + 1, by omega, by go_num, rfl, by have h1 := hsucc.out; have h2 := HFE.out; congr 1; omega⟩
                        case measure => simp [intOf]; omega
                  · have hge : ¬ (r + r ≤ L - (j + 1)) := fun hh => hfl ⟨rfl, hzz, hh⟩
                    rw [hzz] at hmz
                    have hge2 : ¬ ((l.length : Int) - k - 1 ≤ (L : Int) - (j + 1) - (l.length - k - 1)) := by have := HRK.out; omega
                    clear hfl
                    go_wp2_with fail
                    refine (HCA.out _ _ _ (by omega) (by have := HRK.out; omega)).mono ?_
                    rintro r w' ⟨rfl, rfl⟩
                    by_cases hr2 : 1 < r
                    · have hr3 : (1 : Int) < l.length - k - 1 := by have := HRK.out; omega
                      go_wp2_with fail
                      go_loop [16, 17] (fun lv mx => ∃ (i : Nat) (q : Int), i ≤ L - (j + 1) - (r - 1) - m ∧ mx = .int .i64 q ∧ q = (L : Int) - (j + 1) - (r - 1) - i ∧ lv = .int .i64 (less r (L - (j + 1)) m i : Nat)) (fun _ mx => (intOf mx).toNat)
                      case atStart => exact ⟨0, _, by omega, rfl, by have := HRK.out; omega, rfl⟩
                      case round =>
                        obtain ⟨i, q, hi, rfl, hq, rfl⟩ := hrel
                        have HQ := Lib.hid hq
                        have hq0 : 0 ≤ q := by omega
                        have hq1 : q ≤ 60 := by omega
                        by_cases hmx : (m : Int) < q
                        · have hil : i < L - (j + 1) - (r - 1) - m := by omega
                          have hls := HLS.out i
                          have hls2 : i * 60 ^ 3 ≤ 60 * 60 ^ 3 := Nat.mul_le_mul (by omega) (Nat.le_refl _)
                          have hls3 : less r (L - (j + 1)) m i ≤ 12960000 := by omega
                          have hce : Hid (less r (L - (j + 1)) m (i + 1) = less r (L - (j + 1)) m i + cmb (L - (j + 1) - (L - (j + 1) - (r - 1) - i) - 1) (r - 2)) := Lib.hid rfl
                          have hcl := cmb_le4 (L - (j + 1) - (L - (j + 1) - (r - 1) - i) - 1) (r - 2) (by omega) (by omega)
                          have HCD := fun N R w a b => combins (L - (j + 1) - (L - (j + 1) - (r - 1) - i) - 1) (r - 2) N R w (by omega) (by omega) (by omega) a b
                          have HCD := Lib.hid HCD
                          generalize cmb (L - (j + 1) - (L - (j + 1) - (r - 1) - i) - 1) (r - 2) = cd at *
                          generalize less r (L - (j + 1)) m i = lv at *
                          clear hq hls hls2
                          go_wp2_with fail
                          refine (HCD.out _ _ _ (by have := HQ.out; omega) (by have := HRK.out; omega)).mono ?_
                          rintro r w' ⟨rfl, rfl⟩
                          go_wp2_with fail
                          go_round
                          case rel => exact ⟨i + 1, _, by omega, rfl, by have := HQ.out; omega, by rw [hce.out]; go_num⟩
                          case measure => simp [intOf]; omega
                        · obtain rfl : i = L - (j + 1) - (r - 1) - m := by omega
                          have hls := HLS.out (L - (j + 1) - (r - 1) - m)
                          have hls2 : (L - (j + 1) - (r - 1) - m) * 60 ^ 3 ≤ 60 * 60 ^ 3 := Nat.mul_le_mul (by omega) (Nat.le_refl _)
                          have hls3 : less r (L - (j + 1)) m (L - (j + 1) - (r - 1) - m) ≤ 12960000 := by omega
                          have hfe := HFF.out
                          rw [if_pos hr2] at hfe
                          have HFE := Lib.hid hfe
                          generalize less r (L - (j + 1)) m (L - (j + 1) - (r - 1) - m) = lv at *
                          have hp1 : (lv : Int) * (l.length - 1 - k) ≤ 12960000 * 5 := by
                            rw [show ((l.length : Int) - 1 - k) = (r : Int) by have := HRK.out; omega, ← Int.natCast_mul]
                            have : lv * r ≤ 12960000 * 5 := Nat.mul_le_mul hls3 hr5
                            omega
                          have hp2 : 0 ≤ (lv : Int) * (l.length - 1 - k) := Int.mul_nonneg (by omega) (by have := HRK.out; omega)
                          have HP : Hid ((lv : Int) * (l.length - 1 - k) = (lv : Int) * r) := Lib.hid (by rw [show ((l.length : Int) - 1 - k) = (r : Int) by have := HRK.out; omega])
                          clear hq hls hls2 hfe
                          go_wp2_with fail
                          rw [Hand'.out]
                          go_round
                          case rel => exact ⟨j + 1, by omega, by go_num, rfl, by have h1 := hsucc.out; have h2 := HFE.out; have h3 := HP.out; congr 1; omega⟩
                          case measure => simp [intOf]; omega
                    · exact absurd (by omega) hge
            · obtain rfl : j = x - 1 := by omega
              go_wp2_with fail
              go_round
              case rel =>
                refine ⟨k + 1, MM (x - 1), _, by omega, by go_num, by have := HL.out; congr 1; omega, rfl, HMl.out _, rfl, ?_⟩
                have h1 := H3.out
                have h2 := HGV.out
                have h3 : (o && decide (MM (x - 1) = 0)) = (b' && decide (1 < x)) := by
                  rw [HB.out, HZ.out]
                  rcases Nat.lt_or_ge 1 x with hx1 | hx1
                  · obtain ⟨y, hy⟩ : ∃ y, x - 1 = y + 1 := ⟨x - 2, by omega⟩
                    rw [hy, HMs.out]; simp [hx1]
                  · have hy : x - 1 = 0 := by omega
                    have h0 := Nat.pos_pow_of_pos_ k
                    have hne : ¬ (M + 2 ^ k = 0) := by generalize 2 ^ k = p at *; omega
                    rw [hy, HMM.out]; simp only [hne, decide_false, Bool.and_false, show ¬ 1 < x by omega]
                rw [h3]
                congr 1; omega
              case measure => simp [intOf]; omega
        · obtain rfl : k = l.length - 1 := by omega
          have h9 : ¬ ((l.length - 1 : Nat) : Int) < l.length - 1 := by omega
          have hlast : goval (l.drop (l.length - 1)) m b' = 0 := by
            rw [drop_nth (show l.length - 1 < l.length by omega), show l.length - 1 + 1 = l.length by omega, List.drop_length]
            rfl
          rw [hlast]
          go_wp2_with fail
          go_ret
          simp
end Go.Proofs.Ytpgkbhlgechpmaa
