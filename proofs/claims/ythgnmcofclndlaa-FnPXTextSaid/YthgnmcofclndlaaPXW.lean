/-
  FnPXText, walked. No condition.
-/
import Derived.Test.YthgnmcofclndlaaPXQ
namespace Go.Proofs.Ythgnmcofclndlaa
open Go.RowKit Go.Qz
set_option linter.unusedVariables false

set_option maxRecDepth 100000 in
set_option maxHeartbeats 1600000 in
theorem srcString (p : Nat) (A : Option Addr) (N c W H : Nat) (f : Nat → Int) (hN : N = W * H) (hNc : N ≤ c) (hcm : c ≤ maxLen) (hW : 1 ≤ W) (hW2 : W ≤ 60) (hH1 : 1 ≤ H) (hH2 : H ≤ 60) (hf : ∀ j, 0 ≤ f j ∧ f j ≤ 255) (w : World) (hs : SrcIs w p A N c W H 0 0 W H) (hr : Rd w A N (fun j => .int .u8 (f j))) :
    Calls Try.prog 65 #[.pointer (some ⟨p, 0, none⟩)] w fun e w' => e = .returned (.string (strT f W N)) ∧ Below w.heap.size w w' := by
  have HL := Lib.hid (lumString p A N c W H f hN hNc hcm hW hW2 hH1 hH2 hf w hs hr)
  obtain ⟨s, hs2⟩ : ∃ s, s = strT f W N := ⟨_, rfl⟩
  rw [← hs2] at HL ⊢
  clear hs hr hf hN hs2
  go_enter Try.func65, Try.ntmps65
  go_wp2_with fail
  refine HL.out.mono ?_
  rintro e w1 ⟨rfl, hb⟩
  have HB := Lib.hid hb
  clear hb
  go_wp2_with fail
  go_ret
  exact ⟨rfl, HB.out⟩

set_option maxRecDepth 100000 in
set_option maxHeartbeats 1600000 in
theorem grayText (W H N : Nat) (A : Option Addr) (c : Nat) (f : Nat → Int) (hW : 1 ≤ W) (hH : 1 ≤ H) (hW2 : W ≤ 60) (hH2 : H ≤ 60) (hN : N = W * H) (hf : ∀ j, 0 ≤ f j ∧ f j ≤ 255) (w : World) (hr : Rd w A N (fun j => .int .u8 (f j))) :
    Calls Try.prog 12 #[.int .i64 W, .int .i64 H, .slice A N c] w fun e w' => e = .returned (.tuple #[.string (strT f W N), .bool true]) ∧ Below w.heap.size w w' := by
  have HSRC := Lib.hid (source W H N A c f hW hH hW2 hH2 hN w hr)
  have HNN := Lib.hid hN
  have HF := Lib.hid hf
  have HST := Lib.hid (fun p A c w hNc hcm hs hr => srcString p A N c W H f hN hNc hcm hW hW2 hH hH2 hf w hs hr)
  obtain ⟨s, hs2⟩ : ∃ s, s = strT f W N := ⟨_, rfl⟩
  rw [← hs2] at HST ⊢
  clear hr hf hN hs2
  go_enter Try.func12, Try.ntmps12
  go_wp2_with fail
  refine HSRC.out.mono ?_
  rintro e w1 ⟨p, A1, c1, rfl, hs, hnc, hcm, HR, hb⟩
  have HCR := Lib.hid (HST.out p A1 c1 w1 hnc hcm hs HR.out)
  have hm1 := fun X => m_string p X
  have HB := Lib.hid hb
  clear hs hb HST
  go_wp2_with fail
  refine HCR.out.mono ?_
  rintro e w2 ⟨rfl, hb2⟩
  have HB2 := Lib.hid (HB.out.trans (hb2.mono HB.out.size))
  clear hb2
  go_wp2_with fail
  go_ret2
  exact ⟨rfl, HB2.out⟩

theorem strT_size (f : Nat → Int) (W k : Nat) : (strT f W k).size ≤ 2 * k := by
  have := tx_len f W k
  simpa [strT, ByteArray.size] using this
theorem strT_sign (f : Nat → Int) (W k : Nat) (h : k % W = W - 1 → False) : strT f W (k + 1) = strT f W k ++ ⟨#[UInt8.ofNat (sgn (f k).toNat)]⟩ := by
  unfold strT
  simp only [tx, sg, if_neg h]
  apply ByteArray.ext
  simp
theorem strT_line (f : Nat → Int) (W k : Nat) (h : k % W = W - 1) : strT f W (k + 1) = strT f W k ++ ⟨#[UInt8.ofNat (sgn (f k).toNat)]⟩ ++ ⟨#[10]⟩ := by
  unfold strT
  simp only [tx, sg, if_pos h]
  apply ByteArray.ext
  simp

set_option maxRecDepth 100000 in
set_option maxHeartbeats 6400000 in
theorem fnPXText (w : World) (A : Option Addr) (n c : Nat) (z : Nat → Int) (hnc : n ≤ c) (hcm : c ≤ maxLen) (hz : ∀ j, j < n → (Lit.int .u8 (z j)).wf = true) (h : Rd w A n (fun j => .int .u8 (z j))) (a0 : Int) (h0 : (Lit.int .u8 a0).wf = true) :
    Calls Try.prog 4 #[.slice A n c, .int .u8 a0] w fun e w' => e = .returned (.bool true) ∧ Below w.heap.size w w' := by
  obtain ⟨a0, rfl⟩ : ∃ z : Nat, a0 = z := ⟨a0.toNat, by have := bd_u8 h0; omega⟩
  have k0 : a0 < 256 := by have := bd_u8 h0; omega
  clear h0
  by_cases hbig : (2147483647 : Int) < n
  · go_enter Try.func4, Try.ntmps4
    go_wp2_with fail
    go_ret
    exact ⟨rfl, Below.refl _ _⟩
  have hn : n ≤ 2147483647 := by omega
  obtain ⟨z', hz'⟩ : ∃ z' : Nat → Int, z' = fun j => if j < n then z j else 0 := ⟨_, rfl⟩
  have hr' : Rd w A n (fun j => .int .u8 (z' j)) := h.congr fun j hj => by rw [hz']; simp [hj]
  have hzw : ∀ j, (Lit.int .u8 (z' j)).wf = true := fun j => by
    rw [hz']
    by_cases hj : j < n
    · simp only [hj, if_true]; exact hz j hj
    · simp only [hj, if_false]; rfl
  obtain ⟨W, hW⟩ : ∃ W, W = 1 + a0 % 60 := ⟨_, rfl⟩
  obtain ⟨H, hH⟩ : ∃ H, H = min 60 (max 1 (n / W)) := ⟨_, rfl⟩
  have hG := pxGrays A n c z' a0 W H w hn hr' hzw k0 hW hH
  obtain ⟨f, hf⟩ : ∃ f, f = gq z' n := ⟨_, rfl⟩
  have hfb : ∀ j, 0 ≤ f j ∧ f j ≤ 255 := fun j => by
    rw [hf]; unfold gq
    split
    · omega
    · exact bd_u8 (hzw _)
  have hW1 : 1 ≤ W := by omega
  have hW2 : W ≤ 60 := by omega
  have hH1 : 1 ≤ H := by omega
  have hH2 : H ≤ 60 := by omega
  obtain ⟨N, hN⟩ : ∃ N, N = W * H := ⟨_, rfl⟩
  have hNl : N ≤ 3600 := by rw [hN]; exact Nat.mul_le_mul hW2 hH2
  have hG2 : Calls Try.prog 7 #[.slice A n c, .int .u8 a0] w (fun e w' => ∃ b, e = .returned (.tuple #[.int .i64 W, .int .i64 H, .slice (some ⟨b, 0, none⟩) N N]) ∧ Hid (Rd w' (some ⟨b, 0, none⟩) N (fun j => .int .u8 (f j))) ∧ Hid (Below w.heap.size w w')) := by
    refine hG.mono ?_
    rintro e w' ⟨b, rfl, _, ha, hb⟩
    refine ⟨b, by rw [hN], Lib.hid ?_, Lib.hid hb⟩
    rw [← hN] at ha
    have hrd := ha.rd (fun j => .int .u8 (f j)) (fun j hj => by
      rw [upY_len] at hj
      rw [upY_get _ _ _ _ hj, if_pos hj, hf])
    rw [upY_len] at hrd
    exact hrd
  have HG := Lib.hid hG2
  have HN := Lib.hid hN
  have HF := Lib.hid hfb
  clear hG hG2 hN hW hH hf hz' hr' hzw hz h hfb
  go_enter Try.func4, Try.ntmps4
  go_wp2_with fail
  refine HG.out.mono ?_
  rintro e w1 ⟨g, rfl, HR, HB⟩
  go_wp2_with fail
  obtain ⟨g', go, hA', hg', hcell⟩ := HR.out (by rw [HN.out]; exact Nat.mul_pos hW1 hH1)
  injection hA' with hA'
  injection hA' with hA1 hA2
  subst hA1 hA2
  have HCELL := Lib.hid hcell
  clear hcell
  go_loop [8, 9] (fun s i => ∃ k : Nat, k ≤ N ∧ i = .int .i64 k ∧ s = .string (strT f W k)) (fun _ i => N - (intOf i).toNat)
  case atStart => exact ⟨0, by omega, rfl, rfl⟩
  case round =>
    obtain ⟨k, hk, rfl, rfl⟩ := hrel
    by_cases hlt : k < N
    · have hlt1 : (k : Int) < (N : Int) := by omega
      have hcell := HCELL.out k hlt
      rw [Nat.zero_add] at hcell
      obtain ⟨x, hx⟩ : ∃ x : Nat, (x : Int) = f k := ⟨(f k).toNat, by have := (HF.out k).1; omega⟩
      have hxl : x < 256 := by have := (HF.out k).2; omega
      dsimp only at hcell
      rw [← hx] at hcell
      have HX : Hid ((f k).toNat = x) := Lib.hid (by rw [← hx, Int.toNat_natCast])
      obtain ⟨r, hr⟩ : ∃ r, r = k % W := ⟨_, rfl⟩
      have er : (k : Int) % (W : Int) = (r : Int) := by rw [hr]; simp
      have er2 : (k : Int).tmod (W : Int) = (r : Int) := by rw [Int.tmod_eq_emod_of_nonneg (by omega)]; exact er
      have hW0 : (0 : Int) < (W : Int) := by omega
      have HS := Lib.hid (fun X => pxSign x hxl X)
      have hsz := strT_size f W k
      have HTL : Hid (k % W = W - 1 → strT f W (k + 1) = strT f W k ++ ⟨#[UInt8.ofNat (sgn x)]⟩ ++ ⟨#[10]⟩) := Lib.hid (fun h => by rw [← HX.out]; exact strT_line f W k h)
      have HTS : Hid ((k % W = W - 1 → False) → strT f W (k + 1) = strT f W k ++ ⟨#[UInt8.ofNat (sgn x)]⟩) := Lib.hid (fun h => by rw [← HX.out]; exact strT_sign f W k h)
      obtain ⟨s, hs⟩ : ∃ s, s = strT f W k := ⟨_, rfl⟩
      rw [← hs] at hsz HTL HTS ⊢
      clear hx hs
      by_cases hrw : r = W - 1
      · have hrw1 : ((r : Int) == (W : Int) - 1) = true := by simp; omega
        have HT := Lib.hid (HTL.out (by rw [← hr]; exact hrw))
        clear hrw hr HTL HTS
        go_wp2_with fail
        refine (HS.out _).mono ?_
        rintro e w2 ⟨rfl, rfl⟩
        go_wp2_with fail
        go_round
        case rel => exact ⟨k + 1, by omega, by go_num, by rw [HT.out]⟩
        case measure => simp [intOf]; omega
      · have hrw1 : ((r : Int) == (W : Int) - 1) = false := by simp; omega
        have HT := Lib.hid (HTS.out (by rw [← hr]; exact hrw))
        clear hrw hr HTL HTS
        go_wp2_with fail
        refine (HS.out _).mono ?_
        rintro e w2 ⟨rfl, rfl⟩
        go_wp2_with fail
        go_round
        case rel => exact ⟨k + 1, by omega, by go_num, by rw [HT.out]⟩
        case measure => simp [intOf]; omega
    · obtain rfl : k = N := by omega
      have HGT := Lib.hid (grayText W H k (some ⟨g, 0, none⟩) k f hW1 hH1 hW2 hH2 HN.out HF.out w1 HR.out)
      obtain ⟨s, hs⟩ : ∃ s, s = strT f W k := ⟨_, rfl⟩
      rw [← hs] at HGT ⊢
      clear hs hlt
      go_wp2_with fail
      refine HGT.out.mono ?_
      rintro e w2 ⟨rfl, hb2⟩
      have HB2 := Lib.hid (HB.out.trans (hb2.mono HB.out.size))
      clear hb2
      go_wp2_with fail
      go_ret
      exact ⟨rfl, HB2.out⟩
end Go.Proofs.Ythgnmcofclndlaa
