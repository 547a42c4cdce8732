/-
  spec.BIGrid, walked. No condition beyond the bounds that each theorem states.
-/
import Derived.Test.YtcfcbcjaiplllaaBGY1
import Derived.Test.YtcfcbcjaiplllaaBGY2
import Derived.Test.YtcfcbcjaiplllaaBGY3
import Derived.StillTailTactics
import Derived.BigQuiet
import Derived.Deep.CutRange
namespace Go.Proofs.Ytcfcbcjaiplllaa
open Go.RowKit Go.Qz
set_option linter.unusedVariables false

set_option maxRecDepth 100000 in
set_option maxHeartbeats 12800000 in
theorem biGrid (P0 : Pic) (l : List Stp) (hgood : Goods l P0.W P0.H) (w0 : 0 < P0.W) (h0 : 0 < P0.H) (wl : P0.W < 1000) (hl : P0.H < 1000) (m : Nat) (hm : m = l.length) (hml : m < 1000) (A A2 : Option Addr) (c c2 : Nat) (w : World) (h : Rows2 w A P0.H P0.W P0.f) (h2 : Steps w A2 l) :
    Calls Try.prog 16 #[.slice A P0.H c, .slice A2 m c2] w (BGPost l P0 w) := by
  have HL0 := Lib.hid (Left.start hgood w0 h0 wl hl)
  have HCO := Lib.hid (biCopy P0.H P0.W h0 w0 (by omega) (by omega) P0.f A c w h)
  have HS := Lib.hid h2
  have HM := Lib.hid hm
  clear hgood w0 h0 wl hl hm h h2
  obtain ⟨W0, H0, f0⟩ := P0
  go_enter Try.func16, Try.ntmps16
  go_wp2_with fail
  refine HCO.out.mono ?_
  rintro e w1 ⟨G, c9, R, C, rfl, HWR0, hb1⟩
  have HB1 := Lib.hid hb1
  clear hb1 HCO
  go_wp2_with fail
  go_loopw [6, 7, 8] (fun o a i wr => ∃ (k G c : Nat) (R C : Nat → Nat) (P : Pic) (acc : List Bool), k ≤ m ∧ i = .int .i64 k ∧ o = .slice (some ⟨G, 0, none⟩) P.H c ∧ Hid (Left l ⟨W0, H0, f0⟩ k P acc) ∧ Hid (WR wr w.heap.size G P.W (· < P.H) P.f R C) ∧ Hid (wr.ownsRow w.heap.size 4 1 a k (bvs acc)) ∧ Hid (∀ q, a.ownBlock = some q → q ≠ G ∧ ∀ r, r < P.H → q ≠ R r) ∧ Hid (Below w.heap.size w wr)) (fun _ _ i _ => m - (intOf i).toNat)
  case atStart => exact ⟨0, G, c9, R, C, ⟨W0, H0, f0⟩, [], Nat.zero_le _, rfl, rfl, HL0, HWR0, Lib.hid (World.ownsRow_nil _ _ _ _), Lib.hid (by simp [Value.ownBlock]), HB1⟩
  case round =>
    obtain ⟨k, G, cG, R, C, P, acc, hk, rfl, rfl, HL, HWR, HO, HOB, HBE⟩ := hrel
    clear HL0 HB1 HWR0
    by_cases hlt : k < m
    · obtain ⟨b, off, e, hb, hc⟩ := HS.out (by rw [← HM.out]; omega)
      subst e
      have hcs := hc k (by rw [← HM.out]; exact hlt)
      have hgd := HL.out.good1 (by rw [← HM.out]; exact hlt)
      have hnx := HL.out.next (by rw [← HM.out]; exact hlt)
      obtain ⟨s, hs⟩ : ∃ s, s = nthS l k := ⟨_, rfl⟩
      rw [← hs] at hcs hgd hnx
      have cc := fun i v hv => (HBE.out.cell (p := ⟨b, off + k * 6 + i, none⟩) hb).trans (hcs.1 i v hv)
      have c0 := cc 0 _ rfl
      have c1 := cc 1 _ rfl
      have c2 := cc 2 _ rfl
      have c3 := cc 3 _ rfl
      have c4 := cc 4 _ rfl
      have c5 := cc 5 _ rfl
      rw [Nat.add_zero] at c0
      have HRD : Hid (s.op = 9 ∨ s.op = 10 → Rd wr s.A s.n (fun i => .bool (s.B i))) := Lib.hid (fun ho => (hcs.2 ho).keep HBE.out.size (fun q hq => HBE.out.cell hq))
      have HRDW : Hid (s.op = 9 ∨ s.op = 10 → Rd w s.A s.n (fun i => .bool (s.B i))) := Lib.hid hcs.2
      have HNX := Lib.hid hnx
      have HGD := Lib.hid hgd
      have hq1 : (k : Int) < (m : Int) := by omega
      have hq0 : (0 : Int) ≤ (k : Int) := by omega
      clear hc hcs hgd hnx cc hs
      obtain ⟨op, hop⟩ : ∃ op, op = s.op := ⟨_, rfl⟩
      obtain ⟨X, hX⟩ : ∃ X, X = s.X := ⟨_, rfl⟩
      obtain ⟨Y, hY⟩ : ∃ Y, Y = s.Y := ⟨_, rfl⟩
      obtain ⟨CC, hC⟩ : ∃ C, C = s.C := ⟨_, rfl⟩
      obtain ⟨D, hD⟩ : ∃ D, D = s.D := ⟨_, rfl⟩
      obtain ⟨SA, hSA⟩ : ∃ A, A = s.A := ⟨_, rfl⟩
      obtain ⟨sn, hsn⟩ : ∃ n, n = s.n := ⟨_, rfl⟩
      obtain ⟨sc, hsc⟩ : ∃ n, n = s.c := ⟨_, rfl⟩
      rw [← hop] at c0
      rw [← hX] at c1
      rw [← hY] at c2
      rw [← hC] at c3
      rw [← hD] at c4
      rw [← hSA, ← hsn, ← hsc] at c5
      rw [← hop, ← hSA, ← hsn] at HRD HRDW
      have HOP := Lib.hid hop
      have HX := Lib.hid hX
      have HY := Lib.hid hY
      have HC := Lib.hid hC
      have HD := Lib.hid hD
      have HSN := Lib.hid hsn
      clear hop hX hY hC hD hSA hsn hsc
      go_upto_region 7 with (fail)
      iterate 8 go_step
      obtain ⟨E, hE⟩ : ∃ E, E = wr.heap.size := ⟨_, rfl⟩
      obtain ⟨W1, hW1⟩ : ∃ W1, W1 = wr.alloc (.cells #[.int .i64 op, .int .i64 X, .int .i64 Y, .int .i64 CC, .int .i64 D, .slice SA sn sc] 65) := ⟨_, rfl⟩
      rw [← hW1, ← hE]
      have HA : Hid (Arr W1 65 E [.int .i64 op, .int .i64 X, .int .i64 Y, .int .i64 CC, .int .i64 D, .slice SA sn sc]) := Lib.hid (by rw [hW1, hE]; exact Arr.new _ _ _)
      have HBW : Hid (Below wr.heap.size wr W1) := Lib.hid (by rw [hW1]; exact (Below.refl _ _).alloc (Nat.le_refl _) _)
      have HWR1 : Hid (WR W1 w.heap.size G P.W (· < P.H) P.f R C) := Lib.hid (HWR.out.below HBW.out)
      have HRD1 : Hid (op = 9 ∨ op = 10 → Rd W1 SA sn (fun i => .bool (s.B i))) := Lib.hid (fun ho => (HRD.out ho).below HBW.out)
      have HBB : Hid (w.heap.size ≤ W1.heap.size) := Lib.hid (Nat.le_trans HBE.out.size HBW.out.size)
      have HGE : Hid (G < E ∧ ∀ r, r < P.H → R r < E) := Lib.hid (by rw [hE]; exact ⟨HWR.out.glt, HWR.out.rows.lt⟩)
      have a0 := HA.out.cell? 0
      have a1 := HA.out.cell? 1
      have a2 := HA.out.cell? 2
      have a3 := HA.out.cell? 3
      have a4 := HA.out.cell? 4
      have a5 := HA.out.cell? 5
      simp only [List.getElem?_cons_zero, List.getElem?_cons_succ] at a0 a1 a2 a3 a4 a5
      have HEE := Lib.hid hE
      clear hW1 hE c0 c1 c2 c3 c4 c5 HRD
      go_cut [6, 10] (fun o is wx => Hid (GPost w.heap.size G P.H R (s.run P) (s.told P) W1 wx o is))
      case first =>
        rename_i J K' hJ hK
        have hgd := HGD.out
        unfold Stp.good at hgd
        rw [← HOP.out, ← HX.out, ← HY.out, ← HC.out, ← HD.out, ← HSN.out] at hgd
        have HLB : Hid (Bnd P) := Lib.hid ⟨HL.out.w0, HL.out.h0, HL.out.wl, HL.out.hl⟩
        have HBE1 : Hid (Below w.heap.size w W1) := Lib.hid (HBE.out.trans (HBW.out.mono HBE.out.size))
        rcases hgd with ⟨ho, hx0, hx1, hy0, hy1⟩ | ⟨rfl, hx, hy, hc, hd⟩ | rfl | rfl | ⟨rfl, hw⟩ | rfl | ⟨ho, hy0, hy1, hsn⟩
        · rcases ho with rfl | rfl | rfl
          · exact sw1 hJ hK HOP HX HY HC HD HA HWR1 HBB HGE HLB HBE1 hx0 hx1 hy0 hy1
          · exact sw2 hJ hK HOP HX HY HC HD HA HWR1 HBB HGE HLB HBE1 hx0 hx1 hy0 hy1
          · exact sw3 hJ hK HOP HX HY HC HD HA HWR1 HBB HGE HLB HBE1 hx0 hx1 hy0 hy1
        · exact sw4 hJ hK HOP HX HY HC HD HA HWR1 HBB HGE HLB HBE1 hx hy hc hd
        · exact sw5 hJ hK HOP HX HY HC HD HA HWR1 HBB HGE HLB HBE1
        · exact sw6 hJ hK HOP HX HY HC HD HA HWR1 HBB HGE HLB HBE1
        · exact sw7 hJ hK HOP HX HY HC HD HA HWR1 HBB HGE HLB HBE1 hw
        · exact sw8 hJ hK HOP HX HY HC HD HA HWR1 HBB HGE HLB HBE1
        · rcases ho with rfl | rfl
          · exact Qp.wp (sw9 hJ hK HOP HX HY HC HD HA HWR1 HBB HGE HLB HBE1 hy0 hy1 hsn (Lib.hid (HRD1.out (.inl rfl))) (Lib.hid (HRDW.out (.inl rfl))))
          · exact sw10 hJ hK HOP HX HY HC HD HA HWR1 HBB HGE HLB HBE1 hy0 hy1 hsn (Lib.hid (HRD1.out (.inr rfl))) (Lib.hid (HRDW.out (.inr rfl)))
      case rest =>
        obtain ⟨G2, cG2, R2, C2, rfl, rfl, hwr2, hm2, hG2, hR2⟩ := hcut.out
        have hOB := HOB.out
        have HO4 := Lib.hid (own_mod HO.out ((Mod.of_below (S := fun q => q = G ∨ ∃ r, r < P.H ∧ q = R r) HBW.out).trans hm2) (fun q hq h => by
          have h1 := HOB.out q hq
          rcases h with h | ⟨r, hr, h⟩
          · exact h1.1 h
          · exact h1.2 r hr h))
        have hob4 := (fun (v : Value) (hO : wr.ownsRow w.heap.size 4 1 v k (bvs acc)) (hB : ∀ q, v.ownBlock = some q → q ≠ G ∧ ∀ r, r < P.H → q ≠ R r) q (hq : v.ownBlock = some q) => show q ≠ G2 ∧ ∀ r, r < (s.run P).H → q ≠ R2 r from by
          have h1 := (hO.lt q hq).2
          have h3 := HBW.out.size
          refine ⟨fun e => ?_, fun r hr e => ?_⟩
          · rcases hG2 with h | h
            · exact (hB q hq).1 (e.trans h)
            · omega
          · rcases hR2 r hr with ⟨r', hr', h⟩ | h
            · exact (hB q hq).2 r' hr' (e.trans h)
            · omega) _ HO.out HOB.out
        have HOB4 := Lib.hid hob4
        have HW4 := Lib.hid hwr2
        have HBE4 : Hid (Below w.heap.size w wc) := Lib.hid (HBE.out.trans ((HBW.out.mono HBE.out.size).trans (hm2.below (Nat.le_trans HBE.out.size HBW.out.size) (fun q hq => by
          rcases hq with h | ⟨r, hr, h⟩
          · rw [h]; exact HWR.out.glo
          · rw [h]; exact HWR.out.rows.lo r hr))))
        obtain ⟨t, ht⟩ : ∃ t, t = s.told P := ⟨_, rfl⟩
        rw [← ht] at HNX ⊢
        clear hOB hwr2 hm2 hG2 hR2 hob4 HWR HO HOB HBE HWR1 HA HRD1 HRDW HBB HGE a0 a1 a2 a3 a4 a5 hcut HOP HX HY HC HD HSN HGD HL ht
        go_wp2_with (at_builtin; refine wpList_pushAt _ _ 22 w.heap.size 4 (.bool false) 1 _ k (bvs acc) (.bool t) rfl rfl rfl rfl Try.underlying22 Try.infoBoolG rfl rfl (by decide) HO4.out (by omega) HBE4.out.size ?_)
        intro v5 w5 hown5 hgr5 hb5 hat5
        rw [bvs_add] at hown5
        have HO5 := Lib.hid hown5
        have HW5 := Lib.hid (HW4.out.mod (Mod.of_grown hgr5) (fun e => (HOB4.out G2 e).1 rfl) (fun r hr e => (HOB4.out _ e).2 r hr rfl))
        have HOB5 : Hid (∀ q, v5.ownBlock = some q → q ≠ G2 ∧ ∀ r, r < (s.run P).H → q ≠ R2 r) := Lib.hid (fun q hq => by
          rcases hat5 with h | h
          · exact HOB4.out q (by rw [← h, hq])
          · rw [h] at hq; injection hq with hq
            have h1 := HW4.out.glt
            exact ⟨by omega, fun r hr => by have h2 := HW4.out.rows.lt r hr; omega⟩)
        have HBE5 := Lib.hid (HBE4.out.trans hb5)
        clear hown5 hgr5 hb5 hat5 HO4 HW4 HOB4 HBE4
        go_wp2_with fail
        go_roundw
        case rel => exact ⟨k + 1, G2, cG2, R2, C2, s.run P, acc ++ [t], by omega, by go_num, rfl, HNX, HW5, HO5, HOB5, HBE5⟩
        case measure => simp [intOf]; omega
    · obtain rfl : k = m := by omega
      obtain ⟨hP, hacc⟩ := HL.out.done HM.out
      have hrw := HWR.out.rows2
      obtain ⟨A3, c3, hv3, _, _, hr3⟩ := Rd.of_own HO.out
      have HR3 : Hid (Rd wr A3 k (fun j => .bool (nthB (toldS l ⟨W0, H0, f0⟩) j))) := Lib.hid (hr3.congr (fun j hj => by
        rw [← hacc]
        have : j < acc.length := by rw [HL.out.len]; exact hj
        rw [nthB_eq this, List.getD_eq_getElem?_getD]
        simp [bvs, this]))
      have HPE := Lib.hid hP
      have HRW := Lib.hid hrw
      subst hv3
      clear hP hacc hr3 hrw
      go_wp2_with fail
      go_ret2
      have hr5 := HRW
      rw [HPE.out] at hr5 ⊢
      have hk := HM.out
      subst hk
      exact ⟨G, A3, c3, cG, rfl, hr5, HR3, HBE.out⟩
end Go.Proofs.Ytcfcbcjaiplllaa
