/-
  The format and the version drawn into the matrix, walked. No condition beyond the bounds that each theorem states.
-/
import Derived.Test.YthkiajighmhdoaaQKI
namespace Go.Proofs.Ythkiajighmhdoaa
open Go.RowKit Go.Qz Go.Qz.QK Go.Qz.QW Go.Qz.QB
set_option linter.unusedVariables false

variable {w w' : World} {M B n : Nat} {g g' : G}
theorem BitsZ.mod {S : Nat → Prop} {p k n m : Nat} {z : Nat → Bool} (h : BitsZ w p k n m z) (hm : Mod S w w') (hp : ¬ S p) (hk : ¬ S k) : BitsZ w' p k n m z := by
  obtain ⟨ws, hb, hl, hz⟩ := h
  exact ⟨ws, hb.keep (hm.block p hb.plt hp) (hm.block k hb.glt hk), hl, hz⟩
theorem BitsZ.below2 {p k n m : Nat} {z : Nat → Bool} (h : BitsZ w p k n m z) (hb : Below w.heap.size w w') : BitsZ w' p k n m z := h.mod (Mod.of_below (S := fun _ => False) hb) (fun h => h) (fun h => h)
theorem bzGet (p k n : Nat) (z : Nat → Bool) (i : Nat) (hi : i < 32) (w : World) (h : BitsZ w p k n 32 z) :
    Calls Try.prog 93 #[.pointer (some ⟨p, 0, none⟩), .int .i64 i] w fun e w' => e = .returned (.bool (z i)) ∧ w = w' := by
  obtain ⟨ws, hb, hl, hz⟩ := h
  rw [← hz i]
  exact ba_get i i rfl p k n ws w hb (by omega) (by omega)
theorem bzSize (p k n : Nat) (z : Nat → Bool) (w : World) (h : BitsZ w p k n 32 z) :
    Calls Try.prog 92 #[.pointer (some ⟨p, 0, none⟩)] w fun e w' => e = .returned (.int .i64 n) ∧ w = w' := by
  obtain ⟨ws, hb, hl, hz⟩ := h
  exact ba_size p k n ws w hb
def txL : List Nat := [8, 8, 8, 8, 8, 8, 8, 8, 7, 5, 4, 3, 2, 1, 0]
def tyL : List Nat := [0, 1, 2, 3, 4, 5, 7, 8, 8, 8, 8, 8, 8, 8, 8]
theorem tyT_at : ∀ i, i < 15 → (tyT.getD i []).getD 0 0 = ((nth txL i : Nat) : Int) ∧ (tyT.getD i []).getD 1 0 = ((nth tyL i : Nat) : Int) ∧ nth txL i ≤ 8 ∧ nth tyL i ≤ 8 := by decide
set_option maxHeartbeats 3200000 in
theorem qfa_at (n i r c : Nat) (hn : 21 ≤ n) (hi : i < 15) (hr : r < n) (hc : c < n) : qfa n r c = i ↔ (r = nth tyL i ∧ c = nth txL i) ∨ (i < 8 ∧ r = 8 ∧ c = n - 1 - i ∨ 8 ≤ i ∧ r = n - 7 + (i - 8) ∧ c = 8) := by
  have h : i = 0 ∨ i = 1 ∨ i = 2 ∨ i = 3 ∨ i = 4 ∨ i = 5 ∨ i = 6 ∨ i = 7 ∨ i = 8 ∨ i = 9 ∨ i = 10 ∨ i = 11 ∨ i = 12 ∨ i = 13 ∨ i = 14 := by omega
  unfold qfa
  rcases h with rfl | rfl | rfl | rfl | rfl | rfl | rfl | rfl | rfl | rfl | rfl | rfl | rfl | rfl | rfl
  all_goals
    simp only [nth, txL, tyL, List.getD_eq_getElem?_getD, List.getElem?_cons_zero, List.getElem?_cons_succ, Option.getD_some]
    repeat' split
    all_goals omega
set_option maxHeartbeats 1600000 in
theorem f5_step (n x i : Nat) (q g : G) (hn : 21 ≤ n) (hi : i < 15) (hq : ∀ r c, r < n → c < n → q r c = f5 n x i g r c) (x2 y2 : Nat) (h2 : i < 8 ∧ y2 = 8 ∧ x2 = n - 1 - i ∨ 8 ≤ i ∧ y2 = n - 7 + (i - 8) ∧ x2 = 8) (r c : Nat) (hr : r < n) (hc : c < n) :
    upd (upd q (nth tyL i) (nth txL i) (b8 (x.testBit i))) y2 x2 (b8 (x.testBit i)) r c = f5 n x ((i + 1 : Nat) : Int) g r c := by
  have hat := qfa_at n i r c hn hi hr hc
  have hz := qfa_zone n r c hn hr hc
  by_cases h : qfa n r c = i
  · have e1 : f5 n x ((i + 1 : Nat) : Int) g r c = b8 (x.testBit i) := by
      unfold f5; rw [h, if_pos (by clear hat hz; omega)]; unfold bitI b8; simp only [Int.toNat_natCast]
    rw [e1]
    unfold upd
    by_cases h3 : r = y2 ∧ c = x2
    · rw [if_pos h3]
    · rw [if_neg h3, if_pos]
      rcases hat.1 h with h4 | h4
      · exact h4
      · exact absurd (show r = y2 ∧ c = x2 by clear hat hz; omega) h3
  · have hno := fun hh => h (hat.2 hh)
    unfold upd
    rw [if_neg (fun h3 => hno (.inr (by clear hat hno hz; omega))), if_neg (fun h3 => hno (.inl h3)), hq r c hr hc]
    unfold f5
    clear hat hno hz h2
    by_cases h5 : 0 ≤ qfa n r c ∧ qfa n r c < i
    · rw [if_pos h5, if_pos (by omega)]
    · rw [if_neg h5, if_neg (by omega)]
set_option maxHeartbeats 3200000 in
theorem qva_at (n i j r c : Nat) (hn : 21 ≤ n) (hi : i < 6) (hj : j < 3) (hr : r < n) (hc : c < n) : qva n r c = (3 * i + j : Nat) ↔ (r = n - 11 + j ∧ c = i) ∨ (r = i ∧ c = n - 11 + j) := by
  unfold qva
  repeat' split
  all_goals omega
set_option maxHeartbeats 1600000 in
theorem f6_step (n x i j : Nat) (q g : G) (hn : 21 ≤ n) (hi : i < 6) (hj : j < 3) (hq : ∀ r c, r < n → c < n → q r c = f6 n x ((3 * i + j : Nat) : Int) g r c) (r c : Nat) (hr : r < n) (hc : c < n) :
    upd (upd q (n - 11 + j) i (b8 (x.testBit (3 * i + j)))) i (n - 11 + j) (b8 (x.testBit (3 * i + j))) r c = f6 n x ((3 * i + (j + 1) : Nat) : Int) g r c := by
  have hat := qva_at n i j r c hn hi hj hr hc
  by_cases h : qva n r c = (3 * i + j : Nat)
  · have e1 : f6 n x ((3 * i + (j + 1) : Nat) : Int) g r c = b8 (x.testBit (3 * i + j)) := by
      unfold f6; rw [h, if_pos (by clear hat; omega)]; unfold bitI b8; simp only [Int.toNat_natCast]
    rw [e1]
    unfold upd
    by_cases h3 : r = i ∧ c = n - 11 + j
    · rw [if_pos h3]
    · rw [if_neg h3, if_pos]
      rcases hat.1 h with h4 | h4
      · exact h4
      · exact absurd h4 h3
  · have hno := fun hh => h (hat.2 hh)
    unfold upd
    rw [if_neg (fun h3 => hno (.inr h3)), if_neg (fun h3 => hno (.inl h3)), hq r c hr hc]
    unfold f6
    clear hat hno
    by_cases h5 : 0 ≤ qva n r c ∧ qva n r c < (3 * i + j : Nat)
    · rw [if_pos h5, if_pos (by omega)]
    · rw [if_neg h5, if_neg (by omega)]
set_option maxRecDepth 100000 in
set_option maxHeartbeats 6400000 in
theorem embType (l m d : Nat) (hd : d = l * 8 + m) (hl : l < 4) (hm : m < 8) (hn21 : 21 ≤ n) (hn : n ≤ 400) (h : MG w M B n g) :
    Calls Try.prog 69 #[.int .i64 l, .int .i64 m, .pointer (some ⟨M, 0, none⟩)] w (Emb1 M B n (f5 n (fb d) 15 g) w) := by
  have H0 := Lib.hid h
  have HLT := Lib.hid h.lt
  have hne := neqW
  have HTB := Lib.hid (fun p k W hW => typeBits l m p k hl hm W hW)
  rw [← hd] at HTB
  have HF0 : Hid (∀ r c, r < n → c < n → g r c = f5 n (fb d) ((0 : Nat) : Int) g r c) := Lib.hid (fun r c _ _ => by unfold f5; rw [if_neg (by omega)])
  obtain ⟨x, hx⟩ : ∃ x, x = fb d := ⟨_, rfl⟩
  rw [← hx] at HTB HF0 ⊢
  clear h hd hl hm hx
  go_enter Try.func69, Try.ntmps69
  go_wp2_with fail
  refine (newEmpty w).mono ?_
  rintro e w1 ⟨p, k, rfl, HE, HBE, HQ⟩
  have H1 := Lib.hid (H0.out.below HBE.out)
  have M1 : Hid (Mod (MatS B M) w w1) := Lib.hid (Mod.of_below HBE.out)
  have HT := Lib.hid (HTB.out p k w1 HE.out)
  have HPM : Hid (M < p ∧ M < k) := Lib.hid (by have := H0.out.mlt; have := HQ.out; omega)
  have HLS : Hid (w.heap.size ≤ p ∧ w.heap.size ≤ k) := Lib.hid ⟨HQ.out.1, HQ.out.2.1⟩
  clear HE HBE HQ HTB H0
  go_wp2_with fail
  refine HT.out.mono ?_
  rintro e w2 ⟨rfl, k2, z, HZ, HZV, HM2, HG2⟩
  have H2 := Lib.hid (H1.out.mod HM2.out (fun j h1 h2 hh => by have := HPM.out; rcases hh with hh | hh <;> omega))
  have M2 : Hid (Mod (MatS B M) w w2) := Lib.hid (M1.out.then HM2.out (fun i hi hh => by have := HLS.out; rcases hh with hh | hh <;> omega))
  have HK2 : Hid (M < p ∧ M < k2) := Lib.hid (by have := HPM.out; have := H1.out.mlt; rcases HG2.out with h | h <;> omega)
  have HNS : Hid (¬ MatS B M p ∧ ¬ MatS B M k2) := Lib.hid (by have := HK2.out; unfold MatS; omega)
  clear HT H1 M1 HM2 HG2 HPM HLS
  go_wp2_with fail
  go_loopw [9] (fun i wr => ∃ (t : Nat) (q : G), t ≤ 15 ∧ i = .int .i64 t ∧ Hid (MG wr M B n q) ∧ Hid (∀ r c, r < n → c < n → q r c = f5 n x (t : Nat) g r c) ∧ Hid (BitsZ wr p k2 15 32 z) ∧ Hid (Mod (MatS B M) w wr)) (fun i _ => 15 - (intOf i).toNat)
  case atStart => exact ⟨0, g, by omega, rfl, H2, HF0, HZ, M2⟩
  case round =>
    obtain ⟨t, q, ht, rfl, HG, HQ, HBZ, HB⟩ := hrel
    obtain ⟨wi, hwi⟩ : ∃ wi, wi = wr := ⟨_, rfl⟩
    rw [← hwi] at HG HBZ HB ⊢
    clear hwi H2 HF0 HZ M2
    have HSZ := Lib.hid (bzSize p k2 15 z wi HBZ.out)
    by_cases ht15 : t < 15
    · have ht1 : (t : Int) < 15 := by omega
      have ht0 : (0 : Int) ≤ (t : Int) := by omega
      obtain ⟨j, hj⟩ : ∃ j, j = 14 - t := ⟨_, rfl⟩
      have ej : (14 : Int) - (t : Int) = (j : Int) := by omega
      have hj32 : j < 32 := by omega
      have HGT := Lib.hid (bzGet p k2 15 z j hj32 wi HBZ.out)
      have hzj : z j = x.testBit t := by rw [HZV.out j (by omega)]; congr 1; omega
      rw [hzj] at HGT
      obtain ⟨_, _, hx8, hy8⟩ := tyT_at t ht15
      obtain ⟨b, hb⟩ : ∃ b, b = x.testBit t := ⟨_, rfl⟩
      rw [← hb] at HGT
      have HBT := Lib.hid hb
      have hx81 : nth txL t < n := by omega
      have hy81 : nth tyL t < n := by omega
      clear hj hzj hb
      go_wp2_with fail
      refine (callsAs HSZ.out rfl).mono ?_
      rintro e w4 ⟨rfl, rfl⟩
      go_wp2_with fail
      refine (callsAs HSZ.out rfl).mono ?_
      rintro e w4 ⟨rfl, rfl⟩
      go_wp2_with fail
      refine HGT.out.mono ?_
      rintro e w4 ⟨rfl, rfl⟩
      go_wp2_with fail
      refine (tyTab wi).mono ?_
      rintro e w3 ⟨bb, rfl, HTAB, HBE⟩
      obtain ⟨pp, hpp⟩ := HTAB.out
      obtain ⟨_, t1, t2⟩ := hpp t ht15
      have t20 := t2 0 (by omega)
      have t21 := t2 1 (by omega)
      rw [(tyT_at t ht15).1] at t20
      rw [(tyT_at t ht15).2.1] at t21
      obtain ⟨P, hP⟩ : ∃ P, P = pp t := ⟨_, rfl⟩
      rw [← hP] at t1 t20 t21
      have HG3 := Lib.hid (HG.out.below HBE.out)
      have HBZ3 := Lib.hid (HBZ.out.below2 HBE.out)
      have HB3 : Hid (Mod (MatS B M) w w3) := Lib.hid (HB.out.then (Mod.of_below (S := fun _ => False) HBE.out) (fun i _ h => False.elim h))
      have HC1 := Lib.hid (mSetB (nth txL t) (nth tyL t) b hx81 hy81 hn HG3.out)
      have HG4 := Lib.hid (HG3.out.set_ (r0 := nth tyL t) (c0 := nth txL t) hy81 (b8 b))
      have HB4 := Lib.hid (Mod.mset HB3.out HLT.out (c0 := nth txL t) hy81 (.int .i8 (b8 b)))
      have HBZ4 := Lib.hid (HBZ3.out.mod (Mod.mset (Mod.refl (S := MatS B M) w3) HLT.out (c0 := nth txL t) hy81 (.int .i8 (b8 b))) HNS.out.1 HNS.out.2)
      obtain ⟨w4, hw4⟩ : ∃ w4, w4 = w3.setCell ⟨B + 1 + nth tyL t, nth txL t, none⟩ (.int .i8 (b8 b)) := ⟨_, rfl⟩
      rw [← hw4] at HC1 HG4 HB4 HBZ4
      obtain ⟨q4, hq4⟩ : ∃ q4, q4 = upd q (nth tyL t) (nth txL t) (b8 b) := ⟨_, rfl⟩
      rw [← hq4] at HG4
      have HQ4 := Lib.hid hq4
      obtain ⟨X1, hX1⟩ : ∃ X, X = nth txL t := ⟨_, rfl⟩
      obtain ⟨Y1, hY1⟩ : ∃ X, X = nth tyL t := ⟨_, rfl⟩
      rw [← hX1] at t20 HC1 hx81
      rw [← hY1] at t21 HC1 hy81
      clear hpp t2 hP HTAB HBE HG HBZ HB HGT hw4 hq4 HG3 HB3 HBZ3 hX1 hY1 hx8 hy8
      by_cases ht8 : t < 8
      · have ht8i : (t : Int) < 8 := by omega
        have WW := Lib.hid (mat_width M B n _ w4 HG4.out)
        obtain ⟨u, hu⟩ : ∃ u, u = n - t := ⟨_, rfl⟩
        have eu : (n : Int) - (t : Int) = (u : Int) := by omega
        obtain ⟨X2, hX2⟩ : ∃ X2, X2 = n - 1 - t := ⟨_, rfl⟩
        have eX2 : (u : Int) - 1 = (X2 : Int) := by omega
        have HC2 := Lib.hid (mSetB X2 8 b (by omega) (by omega) hn HG4.out)
        have HG5 := Lib.hid (HG4.out.set_ (r0 := 8) (c0 := X2) (by omega) (b8 b))
        have HB5 := Lib.hid (Mod.mset HB4.out HLT.out (c0 := X2) (show 8 < n by omega) (.int .i8 (b8 b)))
        have HBZ5 := Lib.hid (HBZ4.out.mod (Mod.mset (Mod.refl (S := MatS B M) w4) HLT.out (c0 := X2) (show 8 < n by omega) (.int .i8 (b8 b))) HNS.out.1 HNS.out.2)
        have HQ5 : Hid (∀ r c, r < n → c < n → upd q4 8 X2 (b8 b) r c = f5 n x ((t + 1 : Nat) : Int) g r c) := Lib.hid (fun r c hr hc => by
          rw [HQ4.out, HBT.out]
          exact f5_step n x t q g hn21 ht15 HQ.out X2 8 (.inl ⟨ht8, rfl, hX2⟩) r c hr hc)
        have hul : u ≤ 400 := by omega
        have hXl : X2 ≤ 400 := by omega
        clear hu hX2 HG4 HB4 HBZ4
        go_wp2_with fail
        refine HC1.out.mono ?_
        rintro e w5 ⟨rfl, rfl⟩
        go_wp2_with fail
        refine WW.out.mono ?_
        rintro e w5 ⟨rfl, rfl⟩
        go_wp2_with fail
        refine (callsAs HC2.out rfl).mono ?_
        rintro e w5 ⟨rfl, rfl⟩
        go_wp2_with fail
        go_roundw
        case rel => exact ⟨t + 1, _, by omega, by go_num, HG5, HQ5, HBZ5, HB5⟩
        case measure => simp [intOf]; omega
      · have ht8i : ((t : Int) < 8) = False := by simp; omega
        have WW := Lib.hid (mat_height M B n _ w4 HG4.out)
        obtain ⟨u, hu⟩ : ∃ u, u = n - 7 := ⟨_, rfl⟩
        have eu : (n : Int) - 7 = (u : Int) := by omega
        obtain ⟨s, hs⟩ : ∃ s, s = t - 8 := ⟨_, rfl⟩
        have es : (t : Int) - 8 = (s : Int) := by omega
        obtain ⟨Y2, hY2⟩ : ∃ Y2, Y2 = n - 7 + (t - 8) := ⟨_, rfl⟩
        have eY2 : (u : Int) + (s : Int) = (Y2 : Int) := by omega
        have HC2 := Lib.hid (mSetB 8 Y2 b (by omega) (by omega) hn HG4.out)
        have HG5 := Lib.hid (HG4.out.set_ (r0 := Y2) (c0 := 8) (by omega) (b8 b))
        have HB5 := Lib.hid (Mod.mset HB4.out HLT.out (c0 := 8) (show Y2 < n by omega) (.int .i8 (b8 b)))
        have HBZ5 := Lib.hid (HBZ4.out.mod (Mod.mset (Mod.refl (S := MatS B M) w4) HLT.out (c0 := 8) (show Y2 < n by omega) (.int .i8 (b8 b))) HNS.out.1 HNS.out.2)
        obtain ⟨w5, hw5⟩ : ∃ w5, w5 = w4.setCell ⟨B + 1 + Y2, 8, none⟩ (.int .i8 (b8 b)) := ⟨_, rfl⟩
        rw [← hw5] at HC2 HG5 HB5 HBZ5
        have HC3 := Lib.hid (mSetB 8 Y2 b (by omega) (by omega) hn HG5.out)
        have HG6 := Lib.hid (HG5.out.set_ (r0 := Y2) (c0 := 8) (by omega) (b8 b))
        have HB6 := Lib.hid (Mod.mset HB5.out HLT.out (c0 := 8) (show Y2 < n by omega) (.int .i8 (b8 b)))
        have HBZ6 := Lib.hid (HBZ5.out.mod (Mod.mset (Mod.refl (S := MatS B M) w5) HLT.out (c0 := 8) (show Y2 < n by omega) (.int .i8 (b8 b))) HNS.out.1 HNS.out.2)
        have HQ6 : Hid (∀ r c, r < n → c < n → upd (upd q4 Y2 8 (b8 b)) Y2 8 (b8 b) r c = f5 n x ((t + 1 : Nat) : Int) g r c) := Lib.hid (fun r c hr hc => by
          have := f5_step n x t q g hn21 ht15 HQ.out 8 Y2 (.inr ⟨by omega, hY2, rfl⟩) r c hr hc
          rw [← HBT.out, ← HQ4.out] at this
          rw [← this]
          unfold upd
          by_cases e : r = Y2 ∧ c = 8
          · rw [if_pos e, if_pos e]
          · rw [if_neg e])
        have hul : u ≤ 400 := by omega
        have hsl : s ≤ 400 := by omega
        have hYl : Y2 ≤ 800 := by omega
        clear hu hs hY2 HG4 HB4 HBZ4 HG5 HB5 HBZ5 hw5
        go_wp2_with fail
        refine HC1.out.mono ?_
        rintro e w6 ⟨rfl, rfl⟩
        go_wp2_with fail
        refine WW.out.mono ?_
        rintro e w6 ⟨rfl, rfl⟩
        go_wp2_with fail
        refine (callsAs HC2.out rfl).mono ?_
        rintro e w6 ⟨rfl, rfl⟩
        go_wp2_with fail
        refine (callsAs HC3.out rfl).mono ?_
        rintro e w6 ⟨rfl, rfl⟩
        go_wp2_with fail
        go_roundw
        case rel => exact ⟨t + 1, _, by omega, by go_num, HG6, HQ6, HBZ6, HB6⟩
        case measure => simp [intOf]; omega
    · obtain rfl : t = 15 := by omega
      go_wp2_with fail
      refine (callsAs HSZ.out rfl).mono ?_
      rintro e w4 ⟨rfl, rfl⟩
      go_wp2_with fail
      go_ret
      exact ⟨rfl, Lib.hid (HG.out.congr fun r c hr hc => HQ.out r c hr hc), HB⟩
end Go.Proofs.Ythkiajighmhdoaa
