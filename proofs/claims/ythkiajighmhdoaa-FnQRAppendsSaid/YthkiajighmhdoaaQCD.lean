/-
  What segments say (the reference's), walked. No condition beyond the bounds that each theorem states.
-/
import Derived.Test.YthkiajighmhdoaaQCC
namespace Go.Proofs.Ythkiajighmhdoaa
open Go.RowKit Go.Qz Go.Qz.BS Go.Qz.QA
set_option linter.unusedVariables false

set_option maxRecDepth 100000 in
set_option maxHeartbeats 6400000 in
theorem said (S : List (Nat × List Nat)) (hS : ∀ s ∈ S, okSeg s) (n c : Nat) (hn : n = S.length) (hn2 : n ≤ 2) (A : Option Addr) (w : World) (h : Sgs w A S) :
    Calls Try.prog 27 #[.slice A n c] w fun e w' => e = .returned (.tuple #[.string (bs (txt S)), .bool true]) ∧ Below w.heap.size w w' := by
  have HS := Lib.hid h
  have HOK := Lib.hid hS
  have HN := Lib.hid hn
  clear h hS hn
  go_enter Try.func27, Try.ntmps27
  go_wp2_with fail
  go_loopw [4, 11] (fun x i wr => ∃ (q : Nat) (R : List Nat), q ≤ n ∧ i = .int .i64 q ∧ Hid (R.length ≤ 100 * q) ∧ Hid (R ++ txt (S.drop q) = txt S) ∧ Hid (wr.ownsRow w.heap.size 5 1 x R.length (bl R)) ∧ Hid (Below w.heap.size w wr)) (fun _ i _ => n - (intOf i).toNat)
  case atStart => exact ⟨0, [], Nat.zero_le _, rfl, Lib.hid (Nat.le_refl _), Lib.hid (by rw [List.drop_zero]; rfl), Lib.hid (World.ownsRow_nil _ _ _ _), Lib.hid (Below.refl _ _)⟩
  case round =>
    obtain ⟨q, R, hq, rfl, HRL, HTX, HO, HBE⟩ := hrel
    obtain ⟨wi, hwi⟩ : ∃ wi, wi = wr := ⟨_, rfl⟩
    rw [← hwi] at HO HBE ⊢
    clear hwi
    by_cases hlt : q < n
    · have hq1 : (q : Int) < (n : Int) := by omega
      have hq0 : (0 : Int) ≤ (q : Int) := by omega
      have hlS : q < S.length := by rw [← HN.out]; exact hlt
      obtain ⟨b, off, rfl, hb, c0w, A', c', c1w, hcc, hrdw, hfar⟩ := HS.out q hlS
      have c0 := (HBE.out.cell (p := ⟨b, off + q * 2, none⟩) hb).trans c0w
      have c1 := (HBE.out.cell (p := ⟨b, off + q * 2 + 1, none⟩) hb).trans c1w
      obtain ⟨hm, hT100, hTok⟩ := okSeg_at HOK.out hlS
      have HDS := Lib.hid (drop_seg hlS)
      obtain ⟨m, hme⟩ : ∃ m, m = mo S q := ⟨_, rfl⟩
      obtain ⟨T, hTe⟩ : ∃ T, T = tx S q := ⟨_, rfl⟩
      rw [← hme] at c0 hTok HDS
      rw [← hTe] at c1 hrdw hT100 hTok HDS
      obtain ⟨t, ht⟩ : ∃ t, t = T.length := ⟨_, rfl⟩
      rw [← ht] at c1 hrdw hT100 hTok
      have HTOK := Lib.hid hTok
      have HT := Lib.hid ht
      have HT1 := Lib.hid hT100
      have HTX2 : Hid (R ++ (T ++ txt (S.drop (q + 1))) = txt S) := Lib.hid (by rw [← HTX.out, HDS.out]; rfl)
      obtain ⟨W1, hW1⟩ : ∃ W1, W1 = wi.alloc (.cells #[.int .i64 (m : Nat), .slice A' t c'] 49) := ⟨_, rfl⟩
      have hb1 : Below wi.heap.size wi W1 := by rw [hW1]; exact (Below.refl _ _).alloc (Nat.le_refl _) _
      have hA1 : Arr W1 49 wi.heap.size [.int .i64 (m : Nat), .slice A' t c'] := by rw [hW1]; exact Arr.new _ _ _
      obtain ⟨E, hE⟩ : ∃ E, E = wi.heap.size := ⟨_, rfl⟩
      rw [← hE] at hA1
      have HO1 := Lib.hid (own_below HO.out hb1)
      have HB1 : Hid (Below w.heap.size w W1) := Lib.hid (HBE.out.trans (hb1.mono HBE.out.size))
      have HRD := Lib.hid hrdw
      have HEE := Lib.hid hE
      have d0 := hA1.cell? 0
      have d1 := hA1.cell? 1
      simp only [List.getElem?_cons_zero, List.getElem?_cons_succ] at d0 d1
      have HW1 := Lib.hid hW1
      clear hE hW1 hb1 hA1 hrdw hTok hm ht hcc hfar HO HBE c0w c1w hme hTe HTX
      go_upto_region 5 with (fail)
      rw [← HW1.out, ← HEE.out]
      clear c0 c1
      go_wp2_with fail
      go_loopw [4, 18] (fun x i wr => ∃ (k : Nat), k ≤ t ∧ i = .int .i64 k ∧ Hid (wr.ownsRow w.heap.size 5 1 x (R ++ T.take k).length (bl (R ++ T.take k))) ∧ Hid (Below w.heap.size w wr)) (fun _ i _ => t - (intOf i).toNat)
      case atStart => exact ⟨0, Nat.zero_le _, rfl, Lib.hid (by rw [List.take_zero, List.append_nil]; exact HO1.out), HB1⟩
      case round =>
        obtain ⟨k, hk, rfl, HO, HBE⟩ := hrel
        obtain ⟨wj, hwj⟩ : ∃ wj, wj = wr := ⟨_, rfl⟩
        rw [← hwj] at HO HBE ⊢
        clear hwj HO1 HB1 d0 d1
        by_cases hkt : k < t
        · have hk1 : (k : Int) < (t : Int) := by omega
          have hk0 : (0 : Int) ≤ (k : Int) := by omega
          obtain ⟨b4, o4, rfl, hb4, hc4⟩ := HRD.out (by omega)
          have hcp := (HBE.out.cell (p := ⟨b4, o4 + k, none⟩) hb4).trans (hc4 k hkt)
          obtain ⟨_, hx32, hx126⟩ := HTOK.out k hkt
          obtain ⟨x, hx⟩ : ∃ x, x = nth T k := ⟨_, rfl⟩
          dsimp only at hcp
          rw [← hx] at hcp hx32 hx126
          have g1 : ((126 : Int) < (x : Int)) = False := by simp; omega
          have g2 : ((x : Int) < 32) = False := by simp; omega
          have HTK : Hid (R ++ T.take (k + 1) = (R ++ T.take k) ++ [x]) := Lib.hid (by
            have hkl : k < T.length := by rw [← HT.out]; exact hkt
            rw [List.take_add_one, List.getElem?_eq_getElem hkl, hx, nth_eq hkl, ← List.append_assoc]; rfl)
          obtain ⟨X, hX⟩ : ∃ X, X = R ++ T.take k := ⟨_, rfl⟩
          rw [← hX] at HO HTK
          have hXl : X.length ≤ 100 * q + 100 := by
            have := HRL.out; have := HT1.out
            rw [hX, List.length_append, List.length_take]; omega
          have HXL : Hid (X.length < 1000) := Lib.hid (by omega)
          clear hx hX hc4 hXl
          go_wp2_with (at_builtin; refine wpList_push _ _ 30 w.heap.size 5 (.int .u8 0) 1 _ X.length _ (.int .u8 (x : Nat)) rfl rfl rfl rfl Try.underlying30 Try.infoU8Q rfl rfl (by decide) HO.out (by have := HXL.out; omega) HBE.out.size ?_)
          intro v3 w4 hown hg hb5
          have HO4 : Hid (w4.ownsRow w.heap.size 5 1 v3 (R ++ T.take (k + 1)).length (bl (R ++ T.take (k + 1)))) := Lib.hid (by rw [HTK.out, bl_snoc, List.length_append]; exact hown)
          have HB4 : Hid (Below w.heap.size w w4) := Lib.hid (HBE.out.trans hb5)
          clear hown hg hb5
          go_wp2_with fail
          go_roundw
          case rel => exact ⟨k + 1, by omega, by go_num, HO4, HB4⟩
          case measure => simp [intOf]; omega
        · obtain rfl : k = t := by omega
          have hTt : T.take k = T := List.take_of_length_le (by rw [← HT.out]; exact Nat.le_refl _)
          rw [hTt] at HO
          go_wp2_with fail
          go_roundw
          case rel => exact ⟨q + 1, R ++ T, by omega, by go_num, Lib.hid (by have := HRL.out; have := HT1.out; have := HT.out; rw [List.length_append]; omega), Lib.hid (by rw [List.append_assoc]; exact HTX2.out), HO, HBE⟩
          case measure => simp [intOf]; omega
    · obtain rfl : q = n := by omega
      have hTX := HTX.out
      rw [show S.drop q = [] from List.drop_eq_nil_of_le (by rw [← HN.out]; exact Nat.le_refl _), show txt [] = [] from rfl, List.append_nil] at hTX
      obtain ⟨A5, c5, hv5, hrd5, hconv⟩ := conv_ownQ HO.out (fun x hx => by
        rw [hTX] at hx
        obtain ⟨s, hs, hx⟩ := List.mem_flatMap.1 hx
        have := ((HOK.out s hs).2.2 x hx).2.2
        omega)
      have hcv := hconv wi hrd5
      obtain ⟨n5, hn5⟩ : ∃ n5, n5 = R.length := ⟨_, rfl⟩
      rw [← hn5] at hv5 hcv
      subst hv5
      have HTT := Lib.hid hTX
      clear hconv hrd5 hn5 hTX
      go_wp2_with fail
      go_ret2
      exact ⟨by rw [HTT.out]; rfl, HBE.out⟩
end Go.Proofs.Ythkiajighmhdoaa
