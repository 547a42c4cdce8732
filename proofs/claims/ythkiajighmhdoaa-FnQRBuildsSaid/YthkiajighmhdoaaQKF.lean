/-
  A QR symbol's patterns without format, version and data, drawn into the matrix, walked. No condition beyond the bounds that each theorem states.
-/
import Derived.Test.YthkiajighmhdoaaQKE
import Derived.Test.YthkiajighmhdoaaQWE
namespace Go.Proofs.Ythkiajighmhdoaa
open Go.RowKit Go.Qz Go.Qz.QK Go.Qz.QW
set_option linter.unusedVariables false

variable {w w' : World} {M B n : Nat} {g g' : G}
set_option maxRecDepth 100000 in
theorem eqlW (W : World) : (binOp .eql 122 .nilIface .nilIface).run Try.prog W = .ok (.bool true) W := rfl
set_option maxRecDepth 100000 in
theorem neqW (W : World) : (binOp .neq 122 .nilIface .nilIface).run Try.prog W = .ok (.bool false) W := rfl
theorem callsAs {P : Program} {f : Nat} {a a' : Array Value} {w : World} {Q : Ending → World → Prop} (h : Calls P f a w Q) (e : a = a') : Calls P f a' w Q := e ▸ h
set_option maxRecDepth 100000 in
set_option maxHeartbeats 6400000 in
theorem embFins (hn21 : 21 ≤ n) (hn : n ≤ 400) (h : MG w M B n f0) :
    Calls Try.prog 86 #[.pointer (some ⟨M, 0, none⟩)] w (Emb1 M B n (f1 n) w) := by
  have H0 := Lib.hid h
  clear h
  obtain ⟨A7, hA7⟩ : ∃ A, A = n - 7 := ⟨_, rfl⟩
  obtain ⟨A8, hA8⟩ : ∃ A, A = n - 8 := ⟨_, rfl⟩
  have e7 : (n : Int) - 7 = (A7 : Int) := by omega
  have e8 : (n : Int) - 8 = (A8 : Int) := by omega
  have e71 : (A7 : Int) - 1 = (A8 : Int) := by omega
  have i7 : A7 + 7 = n := by omega
  have i8 : A8 + 8 = n := by omega
  have HI := Lib.hid (And.intro (And.intro i7 i8) (And.intro hn21 hn))
  have HEND := Lib.hid (fun r c (hr : r < n) (hc : c < n) => g9_eq n r c hn21 hr hc)
  have F1 := Lib.hid (fun k (hk : k < 8) => free_h1 n k hn21 hk)
  have F2 := Lib.hid (fun k (hk : k < 8) => free_h2 n k hn21 hk)
  have F3 := Lib.hid (fun k (hk : k < 8) => free_h3 n k hn21 hk)
  have F4 := Lib.hid (fun k (hk : k < 7) => free_v1 n k hn21 hk)
  have F5 := Lib.hid (fun k (hk : k < 7) => free_v2 n k hn21 hk)
  have F6 := Lib.hid (fun k (hk : k < 7) => free_v3 n k hn21 hk)
  unfold g9 g3 at HEND
  unfold g3 at F1 F2 F3 F4 F5 F6
  rw [← hA7, ← hA8] at HEND
  rw [← hA7] at F1
  rw [← hA7, ← hA8] at F2 F3 F4 F5 F6
  have b7 : A7 ≤ 400 := by omega
  have b8 : A8 ≤ 400 := by omega
  clear hA7 hA8 i7 i8 hn21
  have he := eqlW
  go_enter Try.func86, Try.ntmps86
  go_wp2_with fail
  refine (finTab w).mono ?_
  rintro e w1 ⟨b, rfl, HTAB, HBE⟩
  obtain ⟨p, hp⟩ := HTAB.out
  obtain ⟨_, t1, _⟩ := hp 0 (by omega)
  have H1 := Lib.hid (H0.out.below HBE.out)
  have M1 : Hid (Mod (MatS B M) w w1) := Lib.hid (Mod.of_below HBE.out)
  have C1 := Lib.hid (embFin 0 0 (by have := HI.out; omega) (by have := HI.out; omega) HI.out.2.2 H1.out)
  clear hp HTAB HBE H0
  go_wp2_with fail
  refine (callsAs C1.out rfl).mono ?_
  rintro e w2 ⟨rfl, H2, M2'⟩
  have M2 := Lib.hid (M1.out.trans M2'.out)
  have W2 := Lib.hid (mat_width M B n _ w2 H2.out)
  have C2 := Lib.hid (embFin A7 0 (by have := HI.out; omega) (by have := HI.out; omega) HI.out.2.2 H2.out)
  clear t1 C1 H1 M1 M2'
  go_wp2_with fail
  refine W2.out.mono ?_
  rintro e w3 ⟨rfl, rfl⟩
  go_wp2_with fail
  refine (callsAs C2.out rfl).mono ?_
  rintro e w3 ⟨rfl, H3, M3'⟩
  have M3 := Lib.hid (M2.out.trans M3'.out)
  have W3 := Lib.hid (mat_width M B n _ w3 H3.out)
  have C3 := Lib.hid (embFin 0 A7 (by have := HI.out; omega) (by have := HI.out; omega) HI.out.2.2 H3.out)
  clear C2 H2 M2 M3' W2
  go_wp2_with fail
  refine W3.out.mono ?_
  rintro e w4 ⟨rfl, rfl⟩
  go_wp2_with fail
  refine (callsAs C3.out rfl).mono ?_
  rintro e w4 ⟨rfl, H4, M4'⟩
  have M4 := Lib.hid (M3.out.trans M4'.out)
  have W4 := Lib.hid (mat_width M B n _ w4 H4.out)
  have C4 := Lib.hid (embHs 0 7 (by have := HI.out; omega) (by have := HI.out; omega) HI.out.2.2 F1.out H4.out)
  clear C3 H3 M3 M4' W3
  go_wp2_with fail
  refine (callsAs C4.out rfl).mono ?_
  rintro e w5 ⟨rfl, H5, M5'⟩
  have M5 := Lib.hid (M4.out.trans M5'.out)
  have W5 := Lib.hid (mat_width M B n _ w5 H5.out)
  have C5 := Lib.hid (embHs A8 7 (by have := HI.out; omega) (by have := HI.out; omega) HI.out.2.2 F2.out H5.out)
  clear C4 H4 M4 M5' W4
  go_wp2_with fail
  refine W5.out.mono ?_
  rintro e w6 ⟨rfl, rfl⟩
  go_wp2_with fail
  refine (callsAs C5.out rfl).mono ?_
  rintro e w6 ⟨rfl, H6, M6'⟩
  have M6 := Lib.hid (M5.out.trans M6'.out)
  have W6 := Lib.hid (mat_width M B n _ w6 H6.out)
  have C6 := Lib.hid (embHs 0 A8 (by have := HI.out; omega) (by have := HI.out; omega) HI.out.2.2 F3.out H6.out)
  clear C5 H5 M5 M6' W5
  go_wp2_with fail
  refine W6.out.mono ?_
  rintro e w7 ⟨rfl, rfl⟩
  go_wp2_with fail
  refine (callsAs C6.out rfl).mono ?_
  rintro e w7 ⟨rfl, H7, M7'⟩
  have M7 := Lib.hid (M6.out.trans M7'.out)
  have C7 := Lib.hid (embVs 7 0 (by have := HI.out; omega) (by have := HI.out; omega) HI.out.2.2 F4.out H7.out)
  clear C6 H6 M6 M7' W6
  go_wp2_with fail
  refine (callsAs C7.out rfl).mono ?_
  rintro e w8 ⟨rfl, H8, M8'⟩
  have M8 := Lib.hid (M7.out.trans M8'.out)
  have W8 := Lib.hid (mat_height M B n _ w8 H8.out)
  have C8 := Lib.hid (embVs A8 0 (by have := HI.out; omega) (by have := HI.out; omega) HI.out.2.2 F5.out H8.out)
  clear C7 H7 M7 M8'
  go_wp2_with fail
  refine W8.out.mono ?_
  rintro e w9 ⟨rfl, rfl⟩
  go_wp2_with fail
  refine (callsAs C8.out rfl).mono ?_
  rintro e w9 ⟨rfl, H9, M9'⟩
  have M9 := Lib.hid (M8.out.trans M9'.out)
  have W9 := Lib.hid (mat_height M B n _ w9 H9.out)
  have C9 := Lib.hid (embVs 7 A7 (by have := HI.out; omega) (by have := HI.out; omega) HI.out.2.2 F6.out H9.out)
  clear C8 H8 M8 M9' W8
  go_wp2_with fail
  refine W9.out.mono ?_
  rintro e w10 ⟨rfl, rfl⟩
  go_wp2_with fail
  refine (callsAs C9.out rfl).mono ?_
  rintro e w10 ⟨rfl, H10, M10'⟩
  have M10 := Lib.hid (M9.out.trans M10'.out)
  clear C9 H9 M9 M10' W9
  go_wp2_with fail
  go_ret
  exact ⟨rfl, Lib.hid (H10.out.congr fun r c hr hc => HEND.out r c hr hc), M10⟩
set_option maxRecDepth 100000 in
set_option maxHeartbeats 6400000 in
theorem embDark (hn21 : 21 ≤ n) (hn : n ≤ 400) (h : MG w M B n (f1 n)) :
    Calls Try.prog 87 #[.pointer (some ⟨M, 0, none⟩)] w (Emb1 M B n (f2 n) w) := by
  have hd := dark_free n hn21
  obtain ⟨A8, hA8⟩ : ∃ A, A = n - 8 := ⟨_, rfl⟩
  rw [← hA8] at hd
  have e8 : (n : Int) - 8 = (A8 : Int) := by omega
  have WH := Lib.hid (mat_height M B n _ w h)
  have GE := Lib.hid (mGet 8 A8 (by omega) (by omega) hn h)
  rw [hd] at GE
  have SE := Lib.hid (mSet 8 A8 1 (by omega) (by omega) hn h)
  have HG := Lib.hid (h.set_ (r0 := A8) (c0 := 8) (by omega) 1)
  have HM := Lib.hid (Mod.mset (Mod.refl (S := MatS B M) w) h.lt (c0 := 8) (show A8 < n by omega) (.int .i8 1))
  have HA := Lib.hid hA8
  have b8 : A8 ≤ 400 := by omega
  clear h hd hA8 hn21
  go_enter Try.func87, Try.ntmps87
  go_wp2_with fail
  refine WH.out.mono ?_
  rintro e w1 ⟨rfl, rfl⟩
  go_wp2_with fail
  refine (callsAs GE.out rfl).mono ?_
  rintro e w1 ⟨rfl, rfl⟩
  go_wp2_with fail
  refine WH.out.mono ?_
  rintro e w1 ⟨rfl, rfl⟩
  go_wp2_with fail
  refine (callsAs SE.out rfl).mono ?_
  rintro e w1 ⟨rfl, rfl⟩
  go_wp2_with fail
  go_ret
  exact ⟨rfl, Lib.hid (HG.out.congr fun r c hr hc => by unfold upd f2; rw [← HA.out]), HM⟩
theorem f4_step (n k v : Nat) (q g : G) (hk : 8 ≤ k) (hv : v = (k + 1) % 2) (hq : ∀ r c, q r c = f4 n k g r c) (b1 b2 : Bool) (h1 : b1 = (q 6 k == -1)) (h2 : b2 = (q k 6 == -1)) (r c : Nat) :
    (if b2 then upd (if b1 then upd q 6 k v else q) k 6 v else (if b1 then upd q 6 k v else q)) r c = f4 n (k + 1) g r c := by
  have e1 : q 6 k = g 6 k := by rw [hq]; unfold f4; rw [if_neg (by omega)]
  have e2 : q k 6 = g k 6 := by rw [hq]; unfold f4; rw [if_neg (by omega)]
  rw [e1] at h1
  rw [e2] at h2
  by_cases c1 : r = 6 ∧ c = k
  · obtain ⟨rfl, rfl⟩ := c1
    have h3 : (if b2 then upd (if b1 then upd q 6 c v else q) c 6 v else (if b1 then upd q 6 c v else q)) 6 c = (if b1 then upd q 6 c v else q) 6 c := by
      cases b2
      · rfl
      · show upd _ c 6 v 6 c = _; unfold upd; rw [if_neg (by omega)]
    rw [h3]
    unfold f4
    by_cases hz : g 6 c = -1
    · rw [show b1 = true from by rw [h1, hz]; rfl, if_pos rfl, if_pos ⟨hz, .inl (by omega)⟩]
      unfold upd; rw [if_pos ⟨rfl, rfl⟩, hv]; omega
    · rw [show b1 = false from by rw [h1]; simpa using hz, if_neg (by simp), if_neg (fun h => hz h.1)]
      exact e1
  by_cases c2 : r = k ∧ c = 6
  · obtain ⟨rfl, rfl⟩ := c2
    have h4 : (if b1 then upd q 6 r v else q) r 6 = q r 6 := by
      cases b1
      · rfl
      · show upd q 6 r v r 6 = _; unfold upd; rw [if_neg (by omega)]
    unfold f4
    by_cases hz : g r 6 = -1
    · have hc : g r 6 = -1 ∧ (r = 6 ∧ 8 ≤ 6 ∧ 6 < r + 1 ∨ 6 = 6 ∧ 8 ≤ r ∧ r < r + 1) := ⟨hz, .inr (by omega)⟩
      rw [show b2 = true from by rw [h2, hz]; rfl, if_pos rfl, if_pos hc]
      unfold upd; rw [if_pos ⟨rfl, rfl⟩, hv]; omega
    · have hb2 : b2 = false := by rw [h2]; simpa using hz
      rw [hb2]
      show (if b1 then upd q 6 r v else q) r 6 = _
      rw [h4, if_neg (fun h => hz h.1)]; exact e2
  · have h3 : (if b2 then upd (if b1 then upd q 6 k v else q) k 6 v else (if b1 then upd q 6 k v else q)) r c = q r c := by
      cases b2 <;> cases b1
      · rfl
      · show upd q 6 k v r c = _; unfold upd; rw [if_neg c1]
      · show upd q k 6 v r c = _; unfold upd; rw [if_neg c2]
      · show upd (upd q 6 k v) k 6 v r c = _; unfold upd; rw [if_neg c2, if_neg c1]
    rw [h3, hq]
    unfold f4
    by_cases hz : g r c = -1 ∧ (r = 6 ∧ 8 ≤ c ∧ c < k ∨ c = 6 ∧ 8 ≤ r ∧ r < k)
    · rw [if_pos hz, if_pos ⟨hz.1, by omega⟩]
    · rw [if_neg hz, if_neg (fun h => hz ⟨h.1, by omega⟩)]
set_option maxRecDepth 100000 in
set_option maxHeartbeats 6400000 in
theorem embTime (hn21 : 21 ≤ n) (hn : n ≤ 400) (h : MG w M B n g) :
    Calls Try.prog 89 #[.pointer (some ⟨M, 0, none⟩)] w (Emb0 M B n (f4 n (n - 8) g) w) := by
  obtain ⟨A8, hA8⟩ : ∃ A, A = n - 8 := ⟨_, rfl⟩
  rw [← hA8]
  have e8 : (n : Int) - 8 = (A8 : Int) := by omega
  have i8 : A8 + 8 = n := by omega
  have H := Lib.hid h
  have HLT := Lib.hid h.lt
  have HI := Lib.hid (And.intro i8 hn21)
  have b8 : A8 ≤ 400 := by omega
  clear h hA8 i8
  go_enter Try.func89, Try.ntmps89
  go_wp2_with fail
  go_loopw [2] (fun i wr => ∃ (k : Nat) (q : G), 8 ≤ k ∧ k ≤ A8 ∧ i = .int .i64 k ∧ Hid (MG wr M B n q) ∧ Hid (∀ r c, q r c = f4 n k g r c) ∧ Hid (Mod (MatS B M) w wr)) (fun i _ => A8 - (intOf i).toNat)
  case atStart => exact ⟨8, g, Nat.le_refl _, by have := HI.out; omega, rfl, H, Lib.hid (fun r c => by unfold f4; rw [if_neg (by omega)]), Lib.hid (Mod.refl _)⟩
  case round =>
    obtain ⟨k, q, hk8, hk, rfl, HG, HQ, HB⟩ := hrel
    obtain ⟨wi, hwi⟩ : ∃ wi, wi = wr := ⟨_, rfl⟩
    rw [← hwi] at HG HB ⊢
    clear hwi
    have WW := Lib.hid (mat_width M B n _ wi HG.out)
    by_cases hkn : k < A8
    · have hk1 : (k : Int) < (A8 : Int) := by omega
      obtain ⟨u, hu⟩ : ∃ u, u = k + 1 := ⟨_, rfl⟩
      have eu : (k : Int) + 1 = (u : Int) := by omega
      obtain ⟨v, hv⟩ : ∃ v, v = (k + 1) % 2 := ⟨_, rfl⟩
      have ev : (u : Int).tmod 2 = (v : Int) := by rw [Int.tmod_eq_emod_of_nonneg (by omega)]; omega
      have ev2 : (u : Int) % 2 = (v : Int) := by omega
      have hv2 : v < 2 := by omega
      have hw8 : IntKind.i8.wrap (v : Int) = (v : Int) := by
        have : v = 0 ∨ v = 1 := by omega
        rcases this with h | h <;> rw [h] <;> rfl
      have hkn2 : k < n := by have := HI.out; omega
      have GE1 := Lib.hid (mGet k 6 hkn2 (by have := HI.out; omega) hn HG.out)
      have EM1 := Lib.hid (isEmp (q 6 k) wi)
      have SE1 := Lib.hid (mSet k 6 (v : Int) hkn2 (by have := HI.out; omega) hn HG.out)
      by_cases z1 : q 6 k = -1
      · have HZ1 := Lib.hid z1
        have z1b : (q 6 k == -1) = true := by rw [z1]; rfl
        rw [z1b] at EM1
        have HG1 := Lib.hid (HG.out.set_ (r0 := 6) (c0 := k) (by have := HI.out; omega) (v : Int))
        have HB1 := Lib.hid (Mod.mset HB.out HLT.out (c0 := k) (show 6 < n by have := HI.out; omega) (.int .i8 (v : Int)))
        obtain ⟨w1, hw1⟩ : ∃ w1, w1 = wi.setCell ⟨B + 1 + 6, k, none⟩ (.int .i8 (v : Int)) := ⟨_, rfl⟩
        obtain ⟨q1, hq1⟩ : ∃ q1, q1 = upd q 6 k v := ⟨_, rfl⟩
        rw [← hw1, ← hq1] at HG1
        rw [← hw1] at HB1 SE1
        have z2e : q1 k 6 = q k 6 := by rw [hq1]; unfold upd; rw [if_neg (by omega)]
        have HZ : Hid ((true = (q 6 k == -1)) ∧ q1 k 6 = q k 6) := Lib.hid ⟨z1b.symm, z2e⟩
        clear z1b z2e
        have GE2 := Lib.hid (mGet 6 k (by have := HI.out; omega) hkn2 hn HG1.out)
        have EM2 := Lib.hid (isEmp (q1 k 6) w1)
        have SE2 := Lib.hid (mSet 6 k (v : Int) (by have := HI.out; omega) hkn2 hn HG1.out)
        have HQ1 := Lib.hid hq1
        have HV := Lib.hid hv
        by_cases z2 : q1 k 6 = -1
        · have z2b : (q1 k 6 == -1) = true := by rw [z2]; rfl
          rw [z2b] at EM2
          have HG2 := Lib.hid (HG1.out.set_ (r0 := k) (c0 := 6) hkn2 (v : Int))
          have HB2 := Lib.hid (Mod.mset HB1.out HLT.out (c0 := 6) hkn2 (.int .i8 (v : Int)))
          have HQ2 : Hid (∀ r c, upd q1 k 6 v r c = f4 n (k + 1) g r c) := Lib.hid (fun r c => by
            rw [HQ1.out]
            exact f4_step n k v q g hk8 HV.out HQ.out true true HZ.out.1 (by rw [← HZ.out.2, z2]; rfl) r c)
          clear hw1 hq1 z1 z2 z2b hv hu HG HB HG1 HB1
          go_wp2_with fail
          refine WW.out.mono ?_
          rintro e w4 ⟨rfl, rfl⟩
          go_wp2_with fail
          refine (callsAs GE1.out rfl).mono ?_
          rintro e w4 ⟨rfl, rfl⟩
          go_wp2_with fail
          refine EM1.out.mono ?_
          rintro e w4 ⟨rfl, rfl⟩
          go_wp2_with fail
          refine (callsAs SE1.out rfl).mono ?_
          rintro e w4 ⟨rfl, rfl⟩
          go_wp2_with fail
          refine (callsAs GE2.out rfl).mono ?_
          rintro e w4 ⟨rfl, rfl⟩
          go_wp2_with fail
          refine EM2.out.mono ?_
          rintro e w4 ⟨rfl, rfl⟩
          go_wp2_with fail
          refine (callsAs SE2.out rfl).mono ?_
          rintro e w4 ⟨rfl, rfl⟩
          go_wp2_with fail
          go_roundw
          case rel => exact ⟨k + 1, _, by omega, by omega, by go_num, HG2, HQ2, HB2⟩
          case measure => simp [intOf]; omega
        · have z2b : (q1 k 6 == -1) = false := by simpa using z2
          rw [z2b] at EM2
          have HG2 := HG1
          have HB2 := HB1
          have HQ2 : Hid (∀ r c, q1 r c = f4 n (k + 1) g r c) := Lib.hid (fun r c => by
            have hzz := z2
            rw [HQ1.out]
            exact f4_step n k v q g hk8 HV.out HQ.out true false HZ.out.1 (by rw [← HZ.out.2]; simpa using hzz) r c)
          clear hw1 hq1 z1 z2 z2b hv hu HG HB HG1 HB1
          go_wp2_with fail
          refine WW.out.mono ?_
          rintro e w4 ⟨rfl, rfl⟩
          go_wp2_with fail
          refine (callsAs GE1.out rfl).mono ?_
          rintro e w4 ⟨rfl, rfl⟩
          go_wp2_with fail
          refine EM1.out.mono ?_
          rintro e w4 ⟨rfl, rfl⟩
          go_wp2_with fail
          refine (callsAs SE1.out rfl).mono ?_
          rintro e w4 ⟨rfl, rfl⟩
          go_wp2_with fail
          refine (callsAs GE2.out rfl).mono ?_
          rintro e w4 ⟨rfl, rfl⟩
          go_wp2_with fail
          refine EM2.out.mono ?_
          rintro e w4 ⟨rfl, rfl⟩
          go_wp2_with fail
          go_roundw
          case rel => exact ⟨k + 1, _, by omega, by omega, by go_num, HG2, HQ2, HB2⟩
          case measure => simp [intOf]; omega
      · have z1b : (q 6 k == -1) = false := by simpa using z1
        rw [z1b] at EM1
        have HG1 := HG
        have HB1 := HB
        obtain ⟨w1, hw1⟩ : ∃ w1, w1 = wi := ⟨_, rfl⟩
        obtain ⟨q1, hq1⟩ : ∃ q1, q1 = q := ⟨_, rfl⟩
        rw [← hw1] at HG1 HB1 EM1 GE1 WW ⊢
        rw [← hq1] at HG1
        have z2e : q1 k 6 = q k 6 := by rw [hq1]
        have HZ : Hid ((false = (q 6 k == -1)) ∧ q1 k 6 = q k 6) := Lib.hid ⟨z1b.symm, z2e⟩
        clear z1b z2e
        have GE2 := Lib.hid (mGet 6 k (by have := HI.out; omega) hkn2 hn HG1.out)
        have EM2 := Lib.hid (isEmp (q1 k 6) w1)
        have SE2 := Lib.hid (mSet 6 k (v : Int) (by have := HI.out; omega) hkn2 hn HG1.out)
        have HQ1 := Lib.hid hq1
        have HV := Lib.hid hv
        by_cases z2 : q1 k 6 = -1
        · have z2b : (q1 k 6 == -1) = true := by rw [z2]; rfl
          rw [z2b] at EM2
          have HG2 := Lib.hid (HG1.out.set_ (r0 := k) (c0 := 6) hkn2 (v : Int))
          have HB2 := Lib.hid (Mod.mset HB1.out HLT.out (c0 := 6) hkn2 (.int .i8 (v : Int)))
          have HQ2 : Hid (∀ r c, upd q1 k 6 v r c = f4 n (k + 1) g r c) := Lib.hid (fun r c => by
            rw [HQ1.out]
            exact f4_step n k v q g hk8 HV.out HQ.out false true HZ.out.1 (by rw [← HZ.out.2, z2]; rfl) r c)
          clear hw1 hq1 z1 z2 z2b hv hu HG HB HG1 HB1
          go_wp2_with fail
          refine WW.out.mono ?_
          rintro e w4 ⟨rfl, rfl⟩
          go_wp2_with fail
          refine (callsAs GE1.out rfl).mono ?_
          rintro e w4 ⟨rfl, rfl⟩
          go_wp2_with fail
          refine EM1.out.mono ?_
          rintro e w4 ⟨rfl, rfl⟩
          go_wp2_with fail
          refine (callsAs GE2.out rfl).mono ?_
          rintro e w4 ⟨rfl, rfl⟩
          go_wp2_with fail
          refine EM2.out.mono ?_
          rintro e w4 ⟨rfl, rfl⟩
          go_wp2_with fail
          refine (callsAs SE2.out rfl).mono ?_
          rintro e w4 ⟨rfl, rfl⟩
          go_wp2_with fail
          go_roundw
          case rel => exact ⟨k + 1, _, by omega, by omega, by go_num, HG2, HQ2, HB2⟩
          case measure => simp [intOf]; omega
        · have z2b : (q1 k 6 == -1) = false := by simpa using z2
          rw [z2b] at EM2
          have HG2 := HG1
          have HB2 := HB1
          have HQ2 : Hid (∀ r c, q1 r c = f4 n (k + 1) g r c) := Lib.hid (fun r c => by
            have hzz := z2
            rw [HQ1.out]
            exact f4_step n k v q g hk8 HV.out HQ.out false false HZ.out.1 (by rw [← HZ.out.2]; simpa using hzz) r c)
          clear hw1 hq1 z1 z2 z2b hv hu HG HB HG1 HB1
          go_wp2_with fail
          refine WW.out.mono ?_
          rintro e w4 ⟨rfl, rfl⟩
          go_wp2_with fail
          refine (callsAs GE1.out rfl).mono ?_
          rintro e w4 ⟨rfl, rfl⟩
          go_wp2_with fail
          refine EM1.out.mono ?_
          rintro e w4 ⟨rfl, rfl⟩
          go_wp2_with fail
          refine (callsAs GE2.out rfl).mono ?_
          rintro e w4 ⟨rfl, rfl⟩
          go_wp2_with fail
          refine EM2.out.mono ?_
          rintro e w4 ⟨rfl, rfl⟩
          go_wp2_with fail
          go_roundw
          case rel => exact ⟨k + 1, _, by omega, by omega, by go_num, HG2, HQ2, HB2⟩
          case measure => simp [intOf]; omega
    · obtain rfl : k = A8 := by omega
      go_wp2_with fail
      refine WW.out.mono ?_
      rintro e w4 ⟨rfl, rfl⟩
      go_wp2_with fail
      go_end0
      exact ⟨rfl, Lib.hid (HG.out.congr fun r c hr hc => HQ.out r c), HB⟩
end Go.Proofs.Ythkiajighmhdoaa
