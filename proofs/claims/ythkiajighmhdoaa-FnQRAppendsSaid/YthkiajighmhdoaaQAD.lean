/-
  The data bits of a segment (the reference's), walked. No condition beyond the bounds that each theorem states.
-/
import Derived.Test.YthkiajighmhdoaaQAC
namespace Go.Proofs.Ythkiajighmhdoaa
open Go.RowKit Go.Qz Go.Qz.QA
set_option linter.unusedVariables false

theorem elemU8 : Try.prog.underlying 30 = some (.slice (Try.prog.elem 30)) := by kernel_rfl
theorem sizeU8 (W : World) : (sizeOf (Try.prog.elem 30)).run Try.prog W = .ok 1 W := by kernel_rfl
/-- What 't[d:]' is. -/
theorem cut_run (b o n c d : Nat) (hd : d ≤ n) (hc : n ≤ c) : ∃ o2, (d < n → o2 = o + d) ∧ ∀ W, (Instr.slice 30 (.slice (some ⟨b, o, none⟩) n c) (some (.int .i64 ((d : Nat) : Int))) none none).run Try.prog W = .ok (.slice (some ⟨b, o2, none⟩) (n - d) (c - d)) W := by
  by_cases h : c = d
  · refine ⟨o, fun h2 => by omega, fun W => ?_⟩
    rw [run_slice_l W _ _ _ _ elemU8 .i64 (d : Int) (by omega) (by omega), sizeU8]
    simp [Result.andThen, sliced, h]
  · refine ⟨o + d, fun _ => rfl, fun W => ?_⟩
    rw [run_slice_l W _ _ _ _ elemU8 .i64 (d : Int) (by omega) (by omega), sizeU8]
    simp only [Result.andThen, sliced, Int.toNat_natCast, if_neg h, Option.map_some, Nat.mul_one]
    congr 3
    unfold Addr.add
    split
    · rename_i h0; rw [h0]; rfl
    · rfl
theorem nth_drop (T : List Nat) (k j : Nat) : nth (T.drop k) j = nth T (k + j) := by
  unfold nth; rw [List.getD_eq_getElem?_getD, List.getElem?_drop, List.getD_eq_getElem?_getD]
set_option maxRecDepth 100000 in
set_option maxHeartbeats 6400000 in
theorem segData (m : Nat) (hm : m = 1 ∨ m = 2 ∨ m = 4) (T : List Nat) (n c : Nat) (hn : n = T.length) (hnl : n ≤ 1000) (hT : ∀ j, j < n → okIn m (nth T j) ∧ nth T j < 256) (X : List Bool) (hX : X.length < 1000000) (base : Nat) (v : Value) (A : Option Addr) (w : World) (hb : base ≤ w.heap.size)
    (ho : w.ownsRow base 4 1 v X.length (bvl X)) (h : Rd w A n (fun j => .int .u8 (nth T j : Nat))) (hnc : n ≤ c) (hfar : ∀ a, A = some a → a.block < base) :
    Calls Try.prog 23 #[v, .agg #[.int .i64 m, .slice A n c]] w (AddPost (X ++ dat m T) base v w) := by
  have hb0 : Below w.heap.size w (w.alloc (.cells #[.int .i64 (m : Nat), .slice A n c] 49)) := (Below.refl _ _).alloc (Nat.le_refl _) _
  have hA := Arr.new w 49 [.int .i64 (m : Nat), .slice A n c]
  obtain ⟨W1, hW1⟩ : ∃ W1, W1 = w.alloc (.cells #[.int .i64 (m : Nat), .slice A n c] 49) := ⟨_, rfl⟩
  have hA2 : Arr W1 49 w.heap.size [.int .i64 (m : Nat), .slice A n c] := by rw [hW1]; exact hA
  rw [← hW1] at hb0
  obtain ⟨E, hE⟩ : ∃ E, E = w.heap.size := ⟨_, rfl⟩
  have HT := Lib.hid hT
  have HM := Lib.hid hm
  have HN := Lib.hid hn
  have HR := Lib.hid (h.below hb0)
  have HO := Lib.hid (own_below ho hb0)
  have HST0 : Hid (Sta w W1 v v) := Lib.hid ((Sta.refl w v).below hb0)
  have HEV : Hid (v.ownBlock ≠ some E) := Lib.hid (fun e => by have := (ho.lt _ e).2; omega)
  have HFV : Hid (∀ b, b < base → v.ownBlock ≠ some b) := Lib.hid (fun b hb e => by have := (ho.lt _ e).1; omega)
  have HBS : Hid (base ≤ W1.heap.size) := Lib.hid (Nat.le_trans hb hb0.size)
  rw [← hE] at hA2
  have HA := Lib.hid hA2
  have HFAR := Lib.hid hfar
  have HNC := Lib.hid hnc
  have d0 := hA2.cell? 0
  have d1 := hA2.cell? 1
  simp only [List.getElem?_cons_zero, List.getElem?_cons_succ] at d0 d1
  clear hT hm hb0 hA hA2 h hn ho hb hfar hnc
  go_enter Try.func23, Try.ntmps23
  go_upto_region 1 with (fail)
  rw [← hW1, ← hE]
  clear hW1 hE
  by_cases hn0 : n = 0
  · subst hn0
    have hTn : T = [] := List.eq_nil_of_length_eq_zero HN.out.symm
    subst hTn
    go_wp2_with fail
    go_loopw [0, 5] (fun x t wr => x = v ∧ t = .slice A 0 c ∧ W1 = wr) (fun _ _ _ => 0)
    case atStart => exact ⟨rfl, rfl, rfl⟩
    case round =>
      obtain ⟨rfl, rfl, rfl⟩ := hrel
      go_wp2_with fail
      go_ret
      exact ⟨_, rfl, by rw [show dat m [] = [] by rfl, List.append_nil]; exact HO.out, HST0.out⟩
  · obtain ⟨b, o0, rfl, hb, hc⟩ := HR.out (by omega)
    have HCC := Lib.hid hc
    have HBF := Lib.hid (HFAR.out _ rfl)
    clear hc HR
    go_wp2_with fail
    go_loopg [0, 5] n (fun gk x t wr => ∃ (k r o c' : Nat) (Y : List Bool), gk = r ∧ k + r = n ∧ t = .slice (some ⟨b, o, none⟩) r c' ∧ r ≤ c' ∧ Y.length < 1000000 + 16 * k ∧ Hid (0 < r → o = o0 + k) ∧ Hid (Y ++ dat m (T.drop k) = X ++ dat m T) ∧ Hid (wr.ownsRow base 4 1 x Y.length (bvl Y)) ∧ Hid (Sta W1 wr v x))
    case atStart => exact ⟨0, n, o0, c, X, rfl, by omega, rfl, HNC.out, by omega, Lib.hid (fun _ => rfl), Lib.hid rfl, HO, Lib.hid (Sta.refl _ _)⟩
    case round =>
      obtain ⟨k, r, o, c', Y, hgr, hkr, rfl, hrc, hYl, HOF, HY, HOW, HST⟩ := hrel
      clear d0 d1
      obtain ⟨wi, hwi⟩ : ∃ wi, wi = wr := ⟨_, rfl⟩
      rw [← hwi] at HOW HST ⊢
      clear hwi
      have d0 : wi.cell? ⟨E, 0, none⟩ = some (.int .i64 (m : Nat)) := (HST.out.cell (p := ⟨E, 0, none⟩) HA.out.lt HEV.out).trans (HA.out.cell? 0)
      by_cases hr0 : r = 0
      · subst hr0
        obtain rfl : k = n := by omega
        have hY := HY.out
        rw [List.drop_eq_nil_of_le (by rw [← HN.out]; exact Nat.le_refl _), show dat m [] = [] by rfl, List.append_nil] at hY
        have HYY := Lib.hid hY
        clear hY
        go_wp2_with fail
        go_ret
        exact ⟨_, rfl, by rw [← HYY.out]; exact HOW.out, HST0.out.trans HST.out⟩
      · have hcell : ∀ j, j < r → wi.cell? ⟨b, o + j, none⟩ = some (.int .u8 (nth T (k + j) : Nat)) := fun j hj => by
          rw [HOF.out (by omega), Nat.add_assoc]
          exact (HST.out.cell (p := ⟨b, o0 + (k + j), none⟩) hb (HFV.out b HBF.out)).trans (HCC.out (k + j) (by omega))
        have hrp : (0 : Int) < (r : Int) := by omega
        have hwb : base ≤ wi.heap.size := Nat.le_trans HBS.out HST.out.1.size
        have hdrop : ∀ d, d ≤ r → T.drop k = (List.range d).map (fun j => nth T (k + j)) ++ T.drop (k + d) := fun d hd => by
          apply List.ext_getElem?
          intro i
          by_cases hi : i < d
          · rw [List.getElem?_append_left (by simpa using hi), List.getElem?_drop, List.getElem?_map, List.getElem?_range hi]
            have : k + i < T.length := by rw [← HN.out]; omega
            rw [List.getElem?_eq_getElem this, ← nth_eq this]; rfl
          · rw [List.getElem?_append_right (by simp; omega), List.getElem?_drop, List.getElem?_drop]
            congr 1; simp; omega
        have HDR := Lib.hid hdrop
        clear hdrop
        rcases HM.out with hm1 | hm1 | hm1
        · have q1 : ((m : Int) == 1) = true := by simp; omega
          by_cases hr3 : 3 ≤ r
          · have hr3i : (3 : Int) ≤ (r : Int) := by omega
            have x0c := hcell 0 (by omega)
            rw [Nat.add_zero, Nat.add_zero] at x0c
            obtain ⟨hk0, hb0⟩ := HT.out (k + 0) (by omega)
            rw [Nat.add_zero] at hk0 hb0
            obtain ⟨x0, hx0⟩ : ∃ x, x = nth T (k) := ⟨_, rfl⟩
            rw [← hx0] at x0c hk0 hb0
            have hg0 := hk0.1 hm1
            obtain ⟨y0, hy0⟩ : ∃ y, y = x0 - 48 := ⟨_, rfl⟩
            have u08 : IntKind.u8.wrap ((x0 : Int) - 48) = (y0 : Int) := by rw [IntKind.wrap_u8]; omega
            have u0w : IntKind.i64.wrap (y0 : Int) = (y0 : Int) := by rw [IntKind.wrap_i64]; omega
            have hyb0 : y0 < 10 := by omega
            have i0r : (0 : Int) < (r : Int) := by omega
            have x1c := hcell 1 (by omega)
            obtain ⟨hk1, hb1⟩ := HT.out (k + 1) (by omega)
            obtain ⟨x1, hx1⟩ : ∃ x, x = nth T (k + 1) := ⟨_, rfl⟩
            rw [← hx1] at x1c hk1 hb1
            have hg1 := hk1.1 hm1
            obtain ⟨y1, hy1⟩ : ∃ y, y = x1 - 48 := ⟨_, rfl⟩
            have u18 : IntKind.u8.wrap ((x1 : Int) - 48) = (y1 : Int) := by rw [IntKind.wrap_u8]; omega
            have u1w : IntKind.i64.wrap (y1 : Int) = (y1 : Int) := by rw [IntKind.wrap_i64]; omega
            have hyb1 : y1 < 10 := by omega
            have i1r : (1 : Int) < (r : Int) := by omega
            have x2c := hcell 2 (by omega)
            obtain ⟨hk2, hb2⟩ := HT.out (k + 2) (by omega)
            obtain ⟨x2, hx2⟩ : ∃ x, x = nth T (k + 2) := ⟨_, rfl⟩
            rw [← hx2] at x2c hk2 hb2
            have hg2 := hk2.1 hm1
            obtain ⟨y2, hy2⟩ : ∃ y, y = x2 - 48 := ⟨_, rfl⟩
            have u28 : IntKind.u8.wrap ((x2 : Int) - 48) = (y2 : Int) := by rw [IntKind.wrap_u8]; omega
            have u2w : IntKind.i64.wrap (y2 : Int) = (y2 : Int) := by rw [IntKind.wrap_i64]; omega
            have hyb2 : y2 < 10 := by omega
            have i2r : (2 : Int) < (r : Int) := by omega
            obtain ⟨p0, hp0⟩ : ∃ p, p = y0 * 100 := ⟨_, rfl⟩
            obtain ⟨p1, hp1⟩ : ∃ p, p = y1 * 10 := ⟨_, rfl⟩
            obtain ⟨p2, hp2⟩ : ∃ p, p = p0 + p1 := ⟨_, rfl⟩
            obtain ⟨z, hz0⟩ : ∃ z, z = p2 + y2 := ⟨_, rfl⟩
            have hz : z = (x0 - 48) * 100 + (x1 - 48) * 10 + (x2 - 48) := by omega
            have v0 : IntKind.i64.wrap ((y0 : Int) * 100) = (p0 : Int) := by rw [IntKind.wrap_i64]; omega
            have v1 : IntKind.i64.wrap ((y1 : Int) * 10) = (p1 : Int) := by rw [IntKind.wrap_i64]; omega
            have v2 : IntKind.i64.wrap ((p0 : Int) + (p1 : Int)) = (p2 : Int) := by rw [IntKind.wrap_i64]; omega
            have v3 : IntKind.i64.wrap ((p2 : Int) + (y2 : Int)) = (z : Int) := by rw [IntKind.wrap_i64]; omega
            have hzb : z < 1000 := by omega
            have HAD := Lib.hid (qrAdd Y z 10 base (by omega) (by omega) (by omega) u0 wi.drew (show base ≤ wi.drew.heap.size from hwb) (show wi.drew.ownsRow base 4 1 u0 Y.length (bvl Y) from HOW.out))
            obtain ⟨o2, ho2, hsl0⟩ := cut_run b o r c' 3 (by omega) hrc
            have hsl : ∀ W, (Instr.slice 30 (.slice (some ⟨b, o, none⟩) r c') (some (.int .i64 3)) none none).run Try.prog W = .ok (.slice (some ⟨b, o2, none⟩) (r - 3) (c' - 3)) W := hsl0
            clear hsl0
            have HO2 := Lib.hid ho2
            have HYN := Lib.hid (show (Y ++ bo z 10) ++ dat m (T.drop (k + 3)) = X ++ dat m T by
              rw [← HY.out, HDR.out 3 (by omega), List.append_assoc]
              congr 1
              rw [hm1]
              rw [show (List.range 3).map (fun j => nth T (k + j)) = [nth T k, nth T (k + 1), nth T (k + 2)] from rfl, ← hx0, ← hx1, ← hx2]
              rw [show [x0, x1, x2] ++ T.drop (k + 3) = x0 :: x1 :: x2 :: T.drop (k + 3) from rfl, dat1_three]
              rw [hz])
            have HM1 := Lib.hid hm1

            clear hcell hz ho2 hm1 hp0 hp1 hp2 hz0 hx0 hk0 hg0 hy0 hx1 hk1 hg1 hy1 hx2 hk2 hg2 hy2
            go_wp2_with fail
            go_region_law (first | (go_simp; go_at_call 22; refine HAD.out.mono ?_; rintro e w2 ⟨v2, rfl, hw2, hs2⟩))
            all_goals
              have HOW2 := Lib.hid hw2
              have HST2 : Hid (Sta W1 w2 v v2) := Lib.hid ((show Sta W1 wi.drew v u0 from ⟨HST.out.1.drew, HST.out.2⟩).trans hs2)
              clear hw2 hs2
              go_wp2_with fail
              go_roundg (gk - 3)
              case measure => omega
              case rel => exact ⟨k + 3, r - 3, o2, c' - 3, Y ++ bo z 10, by omega, by omega, rfl, by omega, by rw [List.length_append, bo_len]; omega, Lib.hid (fun h => by rw [HO2.out (by omega), HOF.out (by omega), Nat.add_assoc]), HYN, HOW2, HST2⟩
          · have hr3i : ((3 : Int) ≤ (r : Int)) = False := by simp; omega
            by_cases hr2 : r = 2
            · have hr2i : ((r : Int) == 2) = true := by simp; omega
              have x0c := hcell 0 (by omega)
              rw [Nat.add_zero, Nat.add_zero] at x0c
              obtain ⟨hk0, hb0⟩ := HT.out (k + 0) (by omega)
              rw [Nat.add_zero] at hk0 hb0
              obtain ⟨x0, hx0⟩ : ∃ x, x = nth T (k) := ⟨_, rfl⟩
              rw [← hx0] at x0c hk0 hb0
              have hg0 := hk0.1 hm1
              obtain ⟨y0, hy0⟩ : ∃ y, y = x0 - 48 := ⟨_, rfl⟩
              have u08 : IntKind.u8.wrap ((x0 : Int) - 48) = (y0 : Int) := by rw [IntKind.wrap_u8]; omega
              have u0w : IntKind.i64.wrap (y0 : Int) = (y0 : Int) := by rw [IntKind.wrap_i64]; omega
              have hyb0 : y0 < 10 := by omega
              have i0r : (0 : Int) < (r : Int) := by omega
              have x1c := hcell 1 (by omega)
              obtain ⟨hk1, hb1⟩ := HT.out (k + 1) (by omega)
              obtain ⟨x1, hx1⟩ : ∃ x, x = nth T (k + 1) := ⟨_, rfl⟩
              rw [← hx1] at x1c hk1 hb1
              have hg1 := hk1.1 hm1
              obtain ⟨y1, hy1⟩ : ∃ y, y = x1 - 48 := ⟨_, rfl⟩
              have u18 : IntKind.u8.wrap ((x1 : Int) - 48) = (y1 : Int) := by rw [IntKind.wrap_u8]; omega
              have u1w : IntKind.i64.wrap (y1 : Int) = (y1 : Int) := by rw [IntKind.wrap_i64]; omega
              have hyb1 : y1 < 10 := by omega
              have i1r : (1 : Int) < (r : Int) := by omega
              obtain ⟨p0, hp0⟩ : ∃ p, p = y0 * 10 := ⟨_, rfl⟩
              obtain ⟨z, hz0⟩ : ∃ z, z = p0 + y1 := ⟨_, rfl⟩
              have hz : z = (x0 - 48) * 10 + (x1 - 48) := by omega
              have v0 : IntKind.i64.wrap ((y0 : Int) * 10) = (p0 : Int) := by rw [IntKind.wrap_i64]; omega
              have v3 : IntKind.i64.wrap ((p0 : Int) + (y1 : Int)) = (z : Int) := by rw [IntKind.wrap_i64]; omega
              have hzb : z < 100 := by omega
              have hend : T.drop (k + 2) = [] := List.drop_eq_nil_of_le (by rw [← HN.out]; omega)
              have HAD := Lib.hid (qrAdd Y z 7 base (by omega) (by omega) (by omega) u0 wi.drew (show base ≤ wi.drew.heap.size from hwb) (show wi.drew.ownsRow base 4 1 u0 Y.length (bvl Y) from HOW.out))
              obtain ⟨o2, ho2, hsl0⟩ := cut_run b o r c' 2 (by omega) hrc
              have hsl : ∀ W, (Instr.slice 30 (.slice (some ⟨b, o, none⟩) r c') (some (.int .i64 2)) none none).run Try.prog W = .ok (.slice (some ⟨b, o2, none⟩) (r - 2) (c' - 2)) W := hsl0
              clear hsl0
              have HO2 := Lib.hid ho2
              have HYN := Lib.hid (show (Y ++ bo z 7) ++ dat m (T.drop (k + 2)) = X ++ dat m T by
                rw [← HY.out, HDR.out 2 (by omega), List.append_assoc]
                congr 1
                rw [hm1]
                rw [show (List.range 2).map (fun j => nth T (k + j)) = [nth T k, nth T (k + 1)] from rfl, ← hx0, ← hx1, hend, List.append_nil]
                rw [show dat 1 [] = [] from rfl, List.append_nil]
                show bo z 7 = bo ((x0 - 48) * 10 + (x1 - 48)) 7
                rw [hz])
              have HM1 := Lib.hid hm1

              clear hcell hr2 hz ho2 hm1 hp0 hz0 hend hx0 hk0 hg0 hy0 hx1 hk1 hg1 hy1
              go_wp2_with fail
              go_region_law (first | (go_simp; go_at_call 22; refine HAD.out.mono ?_; rintro e w2 ⟨v2, rfl, hw2, hs2⟩))
              all_goals
                have HOW2 := Lib.hid hw2
                have HST2 : Hid (Sta W1 w2 v v2) := Lib.hid ((show Sta W1 wi.drew v u0 from ⟨HST.out.1.drew, HST.out.2⟩).trans hs2)
                clear hw2 hs2
                go_wp2_with fail
                go_roundg (gk - 2)
                case measure => omega
                case rel => exact ⟨k + 2, r - 2, o2, c' - 2, Y ++ bo z 7, by omega, by omega, rfl, by omega, by rw [List.length_append, bo_len]; omega, Lib.hid (fun h => by rw [HO2.out (by omega), HOF.out (by omega), Nat.add_assoc]), HYN, HOW2, HST2⟩
            · have hr2i : ((r : Int) == 2) = false := by simp; omega
              have hr1e : r = 1 := by omega
              have x0c := hcell 0 (by omega)
              rw [Nat.add_zero, Nat.add_zero] at x0c
              obtain ⟨hk0, hb0⟩ := HT.out (k + 0) (by omega)
              rw [Nat.add_zero] at hk0 hb0
              obtain ⟨x0, hx0⟩ : ∃ x, x = nth T (k) := ⟨_, rfl⟩
              rw [← hx0] at x0c hk0 hb0
              have hg0 := hk0.1 hm1
              obtain ⟨y0, hy0⟩ : ∃ y, y = x0 - 48 := ⟨_, rfl⟩
              have u08 : IntKind.u8.wrap ((x0 : Int) - 48) = (y0 : Int) := by rw [IntKind.wrap_u8]; omega
              have u0w : IntKind.i64.wrap (y0 : Int) = (y0 : Int) := by rw [IntKind.wrap_i64]; omega
              have hyb0 : y0 < 10 := by omega
              have i0r : (0 : Int) < (r : Int) := by omega
              obtain ⟨z, hz0⟩ : ∃ z, z = y0 := ⟨_, rfl⟩
              have hz : z = x0 - 48 := by omega
              have hzb : z < 10 := by omega
              have hend : T.drop (k + 1) = [] := List.drop_eq_nil_of_le (by rw [← HN.out]; omega)
              rw [← hz0] at u08 u0w
              have HAD := Lib.hid (qrAdd Y z 4 base (by omega) (by omega) (by omega) u0 wi.drew (show base ≤ wi.drew.heap.size from hwb) (show wi.drew.ownsRow base 4 1 u0 Y.length (bvl Y) from HOW.out))
              obtain ⟨o2, ho2, hsl0⟩ := cut_run b o r c' 1 (by omega) hrc
              have hsl : ∀ W, (Instr.slice 30 (.slice (some ⟨b, o, none⟩) r c') (some (.int .i64 1)) none none).run Try.prog W = .ok (.slice (some ⟨b, o2, none⟩) (r - 1) (c' - 1)) W := hsl0
              clear hsl0
              have HO2 := Lib.hid ho2
              have HYN := Lib.hid (show (Y ++ bo z 4) ++ dat m (T.drop (k + 1)) = X ++ dat m T by
                rw [← HY.out, HDR.out 1 (by omega), List.append_assoc]
                congr 1
                rw [hm1]
                rw [show (List.range 1).map (fun j => nth T (k + j)) = [nth T k] from rfl, ← hx0, hend, List.append_nil]
                rw [show dat 1 [] = [] from rfl, List.append_nil]
                show bo z 4 = bo (x0 - 48) 4
                rw [hz])
              have HM1 := Lib.hid hm1

              clear hcell hr2 hr1e hz ho2 hm1 hz0 hend hx0 hk0 hg0 hy0
              go_wp2_with fail
              go_region_law (first | (go_simp; go_at_call 22; refine HAD.out.mono ?_; rintro e w2 ⟨v2, rfl, hw2, hs2⟩))
              all_goals
                have HOW2 := Lib.hid hw2
                have HST2 : Hid (Sta W1 w2 v v2) := Lib.hid ((show Sta W1 wi.drew v u0 from ⟨HST.out.1.drew, HST.out.2⟩).trans hs2)
                clear hw2 hs2
                go_wp2_with fail
                go_roundg (gk - 1)
                case measure => omega
                case rel => exact ⟨k + 1, r - 1, o2, c' - 1, Y ++ bo z 4, by omega, by omega, rfl, by omega, by rw [List.length_append, bo_len]; omega, Lib.hid (fun h => by rw [HO2.out (by omega), HOF.out (by omega), Nat.add_assoc]), HYN, HOW2, HST2⟩
        · have q1 : ((m : Int) == 1) = false := by simp; omega
          have q2 : ((m : Int) == 2) = true := by simp; omega
          have HALL := Lib.hid (fun (x : Nat) (h1 : x < 256) (h2 : alNum x < 45) W => (show Calls Try.prog 40 #[.int .u8 x] W (fun e w' => e = .returned (.int .i64 ((alNum x : Nat) : Int)) ∧ W = w') from by have h := qrAlpha x h1 W; rwa [alV_ok h2] at h))
          by_cases hr2 : 2 ≤ r
          · have hr2i : (2 : Int) ≤ (r : Int) := by omega
            have x0c := hcell 0 (by omega)
            rw [Nat.add_zero, Nat.add_zero] at x0c
            obtain ⟨hk0, hb0⟩ := HT.out (k + 0) (by omega)
            rw [Nat.add_zero] at hk0 hb0
            obtain ⟨x0, hx0⟩ : ∃ x, x = nth T (k) := ⟨_, rfl⟩
            rw [← hx0] at x0c hk0 hb0
            have i0r : (0 : Int) < (r : Int) := by omega
            have x1c := hcell 1 (by omega)
            obtain ⟨hk1, hb1⟩ := HT.out (k + 1) (by omega)
            obtain ⟨x1, hx1⟩ : ∃ x, x = nth T (k + 1) := ⟨_, rfl⟩
            rw [← hx1] at x1c hk1 hb1
            have i1r : (1 : Int) < (r : Int) := by omega
            have hal0 := (hk0.2.1 hm1).1
            have hal1 := (hk1.2.1 hm1).1
            obtain ⟨p0, hp0⟩ : ∃ p, p = alNum x0 * 45 := ⟨_, rfl⟩
            obtain ⟨z, hz0⟩ : ∃ z, z = p0 + alNum x1 := ⟨_, rfl⟩
            have hz : z = alNum x0 * 45 + alNum x1 := by omega
            have v0 : IntKind.i64.wrap ((alNum x0 : Int) * 45) = (p0 : Int) := by rw [IntKind.wrap_i64]; omega
            have v3 : IntKind.i64.wrap ((p0 : Int) + (alNum x1 : Int)) = (z : Int) := by rw [IntKind.wrap_i64]; omega
            have hzb : z < 2025 := by omega
            have HAD := Lib.hid (qrAdd Y z 11 base (by omega) (by omega) (by omega) u0 wi.drew (show base ≤ wi.drew.heap.size from hwb) (show wi.drew.ownsRow base 4 1 u0 Y.length (bvl Y) from HOW.out))
            obtain ⟨o2, ho2, hsl0⟩ := cut_run b o r c' 2 (by omega) hrc
            have hsl : ∀ W, (Instr.slice 30 (.slice (some ⟨b, o, none⟩) r c') (some (.int .i64 2)) none none).run Try.prog W = .ok (.slice (some ⟨b, o2, none⟩) (r - 2) (c' - 2)) W := hsl0
            clear hsl0
            have HO2 := Lib.hid ho2
            have HYN := Lib.hid (show (Y ++ bo z 11) ++ dat m (T.drop (k + 2)) = X ++ dat m T by
              rw [← HY.out, HDR.out 2 (by omega), List.append_assoc]
              congr 1
              rw [hm1]
              rw [show (List.range 2).map (fun j => nth T (k + j)) = [nth T k, nth T (k + 1)] from rfl, ← hx0, ← hx1]
              rw [show [x0, x1] ++ T.drop (k + 2) = x0 :: x1 :: T.drop (k + 2) from rfl, dat2_two]
              rw [hz])
            have HM1 := Lib.hid hm1

            clear hcell hz ho2 hm1 hp0 hz0  hx0 hk0  hx1 hk1 
            go_wp2_with fail
            go_region_law (first | (go_simp; go_at_call 40; refine (HALL.out _ (by assumption) (by assumption) _).mono ?_; rintro e w9 ⟨rfl, rfl⟩) | (go_simp; go_at_call 22; refine HAD.out.mono ?_; rintro e w2 ⟨v2, rfl, hw2, hs2⟩))
            all_goals
              have HOW2 := Lib.hid hw2
              have HST2 : Hid (Sta W1 w2 v v2) := Lib.hid ((show Sta W1 wi.drew v u0 from ⟨HST.out.1.drew, HST.out.2⟩).trans hs2)
              clear hw2 hs2
              go_wp2_with fail
              go_roundg (gk - 2)
              case measure => omega
              case rel => exact ⟨k + 2, r - 2, o2, c' - 2, Y ++ bo z 11, by omega, by omega, rfl, by omega, by rw [List.length_append, bo_len]; omega, Lib.hid (fun h => by rw [HO2.out (by omega), HOF.out (by omega), Nat.add_assoc]), HYN, HOW2, HST2⟩
          · have hr2i : ((2 : Int) ≤ (r : Int)) = False := by simp; omega
            have hr1e : r = 1 := by omega
            have x0c := hcell 0 (by omega)
            rw [Nat.add_zero, Nat.add_zero] at x0c
            obtain ⟨hk0, hb0⟩ := HT.out (k + 0) (by omega)
            rw [Nat.add_zero] at hk0 hb0
            obtain ⟨x0, hx0⟩ : ∃ x, x = nth T (k) := ⟨_, rfl⟩
            rw [← hx0] at x0c hk0 hb0
            have i0r : (0 : Int) < (r : Int) := by omega
            have hal0 := (hk0.2.1 hm1).1
            obtain ⟨z, hz0⟩ : ∃ z, z = alNum x0 := ⟨_, rfl⟩
            have hz : z = alNum x0 := by omega
            have hzb : z < 45 := by omega
            have hend : T.drop (k + 1) = [] := List.drop_eq_nil_of_le (by rw [← HN.out]; omega)
            have hzz : alNum x0 = z := hz0.symm
            have HAD := Lib.hid (qrAdd Y z 6 base (by omega) (by omega) (by omega) u0 wi.drew (show base ≤ wi.drew.heap.size from hwb) (show wi.drew.ownsRow base 4 1 u0 Y.length (bvl Y) from HOW.out))
            obtain ⟨o2, ho2, hsl0⟩ := cut_run b o r c' 1 (by omega) hrc
            have hsl : ∀ W, (Instr.slice 30 (.slice (some ⟨b, o, none⟩) r c') (some (.int .i64 1)) none none).run Try.prog W = .ok (.slice (some ⟨b, o2, none⟩) (r - 1) (c' - 1)) W := hsl0
            clear hsl0
            have HO2 := Lib.hid ho2
            have HYN := Lib.hid (show (Y ++ bo z 6) ++ dat m (T.drop (k + 1)) = X ++ dat m T by
              rw [← HY.out, HDR.out 1 (by omega), List.append_assoc]
              congr 1
              rw [hm1]
              rw [show (List.range 1).map (fun j => nth T (k + j)) = [nth T k] from rfl, ← hx0, hend, List.append_nil]
              rw [show dat 2 [] = [] from rfl, List.append_nil]
              show bo z 6 = bo (alNum x0) 6
              rw [hz])
            have HM1 := Lib.hid hm1

            clear hcell hr2 hr1e hz ho2 hm1 hz0 hend hx0 hk0 
            go_wp2_with fail
            go_region_law (first | (go_simp; go_at_call 40; refine (HALL.out _ (by assumption) (by assumption) _).mono ?_; rintro e w9 ⟨rfl, rfl⟩) | (go_simp; go_at_call 22; refine HAD.out.mono ?_; rintro e w2 ⟨v2, rfl, hw2, hs2⟩))
            all_goals
              have HOW2 := Lib.hid hw2
              have HST2 : Hid (Sta W1 w2 v v2) := Lib.hid ((show Sta W1 wi.drew v u0 from ⟨HST.out.1.drew, HST.out.2⟩).trans hs2)
              clear hw2 hs2
              go_wp2_with fail
              go_roundg (gk - 1)
              case measure => omega
              case rel => exact ⟨k + 1, r - 1, o2, c' - 1, Y ++ bo z 6, by omega, by omega, rfl, by omega, by rw [List.length_append, bo_len]; omega, Lib.hid (fun h => by rw [HO2.out (by omega), HOF.out (by omega), Nat.add_assoc]), HYN, HOW2, HST2⟩
        · have q1 : ((m : Int) == 1) = false := by simp; omega
          have q2 : ((m : Int) == 2) = false := by simp; omega
          have x0c := hcell 0 (by omega)
          rw [Nat.add_zero, Nat.add_zero] at x0c
          obtain ⟨hk0, hb0⟩ := HT.out (k + 0) (by omega)
          rw [Nat.add_zero] at hk0 hb0
          obtain ⟨x0, hx0⟩ : ∃ x, x = nth T (k) := ⟨_, rfl⟩
          rw [← hx0] at x0c hk0 hb0
          have i0r : (0 : Int) < (r : Int) := by omega
          obtain ⟨z, hz0⟩ : ∃ z, z = x0 := ⟨_, rfl⟩
          have hz : z = x0 := hz0
          have u0w : IntKind.i64.wrap (z : Int) = (z : Int) := by rw [IntKind.wrap_i64]; omega
          have hzb : z < 256 := by omega
          rw [← hz0] at x0c
          have HAD := Lib.hid (qrAdd Y z 8 base (by omega) (by omega) (by omega) u0 wi.drew (show base ≤ wi.drew.heap.size from hwb) (show wi.drew.ownsRow base 4 1 u0 Y.length (bvl Y) from HOW.out))
          obtain ⟨o2, ho2, hsl0⟩ := cut_run b o r c' 1 (by omega) hrc
          have hsl : ∀ W, (Instr.slice 30 (.slice (some ⟨b, o, none⟩) r c') (some (.int .i64 1)) none none).run Try.prog W = .ok (.slice (some ⟨b, o2, none⟩) (r - 1) (c' - 1)) W := hsl0
          clear hsl0
          have HO2 := Lib.hid ho2
          have HYN := Lib.hid (show (Y ++ bo z 8) ++ dat m (T.drop (k + 1)) = X ++ dat m T by
            rw [← HY.out, HDR.out 1 (by omega), List.append_assoc]
            congr 1
            rw [hm1]
            rw [show (List.range 1).map (fun j => nth T (k + j)) = [nth T k] from rfl, ← hx0]
            rw [show [x0] ++ T.drop (k + 1) = x0 :: T.drop (k + 1) from rfl, dat4_one]
            rw [hz])
          have HM1 := Lib.hid hm1

          clear hcell hz ho2 hm1 hz0 hx0 hk0 
          go_wp2_with fail
          go_region_law (first | (go_simp; go_at_call 22; refine HAD.out.mono ?_; rintro e w2 ⟨v2, rfl, hw2, hs2⟩))
          all_goals
            have HOW2 := Lib.hid hw2
            have HST2 : Hid (Sta W1 w2 v v2) := Lib.hid ((show Sta W1 wi.drew v u0 from ⟨HST.out.1.drew, HST.out.2⟩).trans hs2)
            clear hw2 hs2
            go_wp2_with fail
            go_roundg (gk - 1)
            case measure => omega
            case rel => exact ⟨k + 1, r - 1, o2, c' - 1, Y ++ bo z 8, by omega, by omega, rfl, by omega, by rw [List.length_append, bo_len]; omega, Lib.hid (fun h => by rw [HO2.out (by omega), HOF.out (by omega), Nat.add_assoc]), HYN, HOW2, HST2⟩
end Go.Proofs.Ythkiajighmhdoaa
