/-
  The statement FnRSRoots, walked. No condition.
-/
import Derived.Test.YthagfgfefkpikaaRSE6
namespace Go.Proofs.Ythagfgfefkpikaa
open Go.RowKit Go.Qz Go.Qz.RS
set_option linter.unusedVariables false

theorem six_16 {F : Fld} (h : Six F) : 16 ≤ F.size := by
  obtain ⟨k, hk, rfl⟩ := h
  rcases k with _ | _ | _ | _ | _ | _ | k <;> simp [six] at *
theorem coded_el {F : Fld} (h : Six F) {data r : List Nat} (ec : Nat) (hd : El F data) (hr : El F r) : El F (coded data r ec) := by
  have hs := h.bounds
  intro j
  unfold coded
  rw [nth_append, nth_append, nth_replicate]
  split
  · split
    · exact hd _
    · split <;> omega
  · exact hr _
theorem coded_front (data r : List Nat) (ec j : Nat) (hj : j < data.length) : nth (coded data r ec) j = nth data j := by
  unfold coded
  rw [nth_append, if_pos (by rw [List.length_append]; omega), nth_append, if_pos hj]

set_option maxRecDepth 100000 in
set_option maxHeartbeats 3200000 in
theorem fnRSRoots (w : World) (a : Int) (ha : (Lit.int .u8 a).wf = true) (A : Option Addr) (n c : Nat) (z : Nat → Int) (hnc : n ≤ c) (hcm : c ≤ maxLen) (hz : ∀ j, j < n → (Lit.int .i64 (z j)).wf = true) (h : Rd w A n (fun j => .int .i64 (z j))) (b : Int) (hb : (Lit.int .u8 b).wf = true) :
    Calls Try.prog 7 #[.int .u8 a, .slice A n c, .int .u8 b] w fun e w' => e = .returned (.bool true) ∧ Below w.heap.size w w' := by
  obtain ⟨a0, a1⟩ := bd_u8 ha
  obtain ⟨b0, b1⟩ := bd_u8 hb
  have HZ := Lib.hid (fun j hj => bd_i64 (hz j hj))
  have HA := Lib.hid h
  clear hz ha h hb
  by_cases hbig : (2147483647 : Int) < n
  · go_enter Try.func7, Try.ntmps7
    go_wp2_with fail
    go_ret
    exact ⟨rfl, Below.refl _ _⟩
  have hn : n < 2147483648 := by omega
  go_enter Try.func7, Try.ntmps7
  go_wp2_with fail
  refine (rsField a a0 a1 w).mono ?_
  rintro e w1 ⟨F, rfl, hF, hb1⟩
  have hFb := hF.bounds
  have hb1' : Below w.heap.size w (w1.alloc (.cells #[.int .i64 F.prim, .int .i64 F.size, .int .i64 F.base] 23)) := hb1.alloc hb1.size _
  have hAr : Arr (w1.alloc (.cells #[.int .i64 F.prim, .int .i64 F.size, .int .i64 F.base] 23)) 23 w1.heap.size [.int .i64 F.prim, .int .i64 F.size, .int .i64 F.base] := Arr.new _ _ _
  obtain ⟨H0, hH0⟩ : ∃ H0, H0 = w1.heap.size := ⟨_, rfl⟩
  obtain ⟨w2, hw2⟩ : ∃ w2, w2 = w1.alloc (.cells #[.int .i64 F.prim, .int .i64 F.size, .int .i64 F.base] 23) := ⟨_, rfl⟩
  rw [← hw2, ← hH0] at hAr
  rw [← hw2] at hb1'
  have HW := Lib.hid hw2
  have HH := Lib.hid hH0
  clear hw2 hH0 hb1
  have HWD := rsWords F hF (six_16 hF) z A n c b b0 b1 w2 (by omega) HZ.out (HA.out.below hb1')
  unfold fv at HWD ⊢
  have HWD := Lib.hid HWD
  obtain ⟨c0, c1, c2⟩ := fcells hAr
  have HAr := Lib.hid hAr
  have HB2 := Lib.hid hb1'
  clear hAr hb1'
  go_wp2_with fail
  rw [← HW.out, ← HH.out]
  go_wp2_with fail
  refine HWD.out.mono ?_
  rintro e w3 ⟨A3, c3, many, data, rfl, hs3, hde, hm2, hms, hdm, hd255, hm41, hb3⟩
  have HS3 := Lib.hid hs3
  have HDE := Lib.hid hde
  have HA3 := Lib.hid (HAr.out.below hb3 HAr.out.lt)
  have HB3 := Lib.hid (HB2.out.trans (hb3.mono HB2.out.size))
  have hc3 := hs3.1
  clear hs3 hde hb3 HWD c0 c1 c2 HAr HB2
  by_cases hd0 : data = []
  · have hdec : decide (data ≠ []) = false := by simp [hd0]
    rw [hdec]
    clear hd0 hdec
    go_wp2_with fail
    go_ret
    exact ⟨rfl, HB3.out⟩
  · have hdec : decide (data ≠ []) = true := by simp [hd0]
    rw [hdec]
    have hdp := List.length_pos_iff.2 hd0
    have HD0 := Lib.hid hd0
    have HEN := implEncode F hF data many A3 c3 (by omega) (by omega) hd0 (by omega) HDE.out w3 HS3.out.rd
    unfold fv at HEN
    have HEN := Lib.hid HEN
    obtain ⟨c0, c1, c2⟩ := fcells HA3.out
    clear hd0 hdec
    go_wp2_with fail
    refine HEN.out.mono ?_
    rintro e w4 ⟨A4, c4, q, r, rfl, hs4, hc4m, hcl, hqe, hre, hqn, hrl, hlaw, hb4⟩
    have HA4 := Lib.hid (HA3.out.below hb4 HA3.out.lt)
    have HB4 := Lib.hid (HB3.out.trans (hb4.mono HB3.out.size))
    have HS3' := Lib.hid (HS3.out.below hb4)
    have HEL := Lib.hid (coded_el hF many HDE.out hre)
    have HROOT := Lib.hid (fun i hi => coded_root hF HDE.out HD0.out hqe hre hqn hrl hlaw i hi)
    have HFR : Hid (∀ j, j < data.length → nth (coded data r many) j = nth data j) := Lib.hid (fun j hj => coded_front data r many j hj)
    obtain ⟨L, hL⟩ : ∃ L, L = coded data r many := ⟨_, rfl⟩
    rw [← hL] at hs4 hcl HEL HROOT HFR
    have HS4 := Lib.hid hs4
    have HIN := rsIn F hF L (by omega) HEL.out A4 c4 w4 hs4.rd
    rw [hcl] at HIN
    unfold fv at HIN
    have HIN := Lib.hid HIN
    have HCL := Lib.hid hcl
    obtain ⟨d0, d1, d2⟩ := fcells HA4.out
    have hc4 := hs4.1
    obtain ⟨N, hN⟩ : ∃ N, N = data.length + many := ⟨_, rfl⟩
    rw [← hN] at HIN HCL
    have eN : (data.length : Int) + (many : Int) = (N : Int) := by omega
    have g1 : ((N : Int) == (N : Int)) = true := by simp
    have g2 : data.length ≤ c4 := by omega
    have g3 : (data.length : Int) ≤ (c4 : Int) := by omega
    have g4 : (0 : Int) ≤ (data.length : Int) := by omega
    rw [← hN]
    have hNl : N ≤ 255 := by omega
    clear hs4 hb4 hL hcl hqe hre hqn hlaw hN c0 c1 c2 HEN HA3 HB3 HS3 hc4m hcm
    go_wp2_with fail
    refine HIN.out.mono ?_
    rintro e w5 ⟨rfl, hb5⟩
    have HA5 := Lib.hid (HA4.out.below hb5 HA4.out.lt)
    have HB5 := Lib.hid (HB4.out.trans (hb5.mono HB4.out.size))
    have HS35 := Lib.hid (HS3'.out.below hb5)
    have HS45 := Lib.hid (HS4.out.below hb5)
    have hrd45 : Rd w5 A4 data.length (fun j => .int .i64 (nth L j : Nat)) := fun h0 => by
      obtain ⟨b, off, e1, e2, e3⟩ := HS45.out.rd (by have := HCL.out; omega)
      exact ⟨b, off, e1, e2, fun j hj => e3 j (by have := HCL.out; omega)⟩
    have HSame := Lib.hid (rsSame A4 A3 data.length data.length c4 c3 (fun j => (nth L j : Nat)) (fun j => (nth data j : Nat)) w5 (by omega) (by omega) hrd45 HS35.out.rd)
    clear hb5 hrd45 HIN HA4 HB4 HS3' HS4 d0 d1 d2
    go_wp2_with fail
    refine HSame.out.mono ?_
    rintro e w6 ⟨bo, rfl, hbo, hb6⟩
    have hbt : bo = true := hbo.2 ⟨rfl, fun j hj => by have := HFR.out j hj; simp only [this]⟩
    subst hbt
    have HA6 := Lib.hid (HA5.out.below hb6 HA5.out.lt)
    have HB6 := Lib.hid (HB5.out.trans (hb6.mono HB5.out.size))
    have HS46 := Lib.hid (HS45.out.below hb6)
    have HIC := rsIsCode F hF L (by have := HCL.out; omega) HEL.out many (by omega) HROOT.out A4 c4 w6 HS46.out.rd
    rw [HCL.out] at HIC
    unfold fv at HIC
    have HIC := Lib.hid HIC
    obtain ⟨d0, d1, d2⟩ := fcells HA6.out
    clear hbo hb6 HSame HA5 HB5 HS35 HS45
    go_wp2_with fail
    refine HIC.out.mono ?_
    rintro e w7 ⟨rfl, hb7⟩
    go_wp2_with fail
    go_ret
    exact ⟨rfl, HB6.out.trans (hb7.mono HB6.out.size)⟩
end Go.Proofs.Ythagfgfefkpikaa
