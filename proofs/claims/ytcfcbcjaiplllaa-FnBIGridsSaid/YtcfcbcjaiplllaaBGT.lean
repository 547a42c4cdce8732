/-
  impl.GridRun, walked. No condition beyond the bounds that the theorem states.
-/
import Derived.Test.YtcfcbcjaiplllaaBGQ
namespace Go.Proofs.Ytcfcbcjaiplllaa
open Go.RowKit Go.Qz
set_option linter.unusedVariables false
attribute [local go_sem] eql_err'

set_option maxRecDepth 100000 in
set_option maxHeartbeats 6400000 in
theorem gridRun (P0 : Pic) (l : List Stp) (hgood : Goods l P0.W P0.H) (w0 : 0 < P0.W) (h0 : 0 < P0.H) (wl : P0.W < 1000) (hl : P0.H < 1000) (m : Nat) (hm : m = l.length) (hml : m < 1000) (A A2 : Option Addr) (c c2 : Nat) (w : World) (h : Rows2 w A P0.H P0.W P0.f) (h2 : Steps w A2 l) :
    Calls Try.prog 15 #[.slice A P0.H c, .slice A2 m c2] w (GRPost l P0 w) := by
  have HL0 := Lib.hid (Left.start hgood w0 h0 wl hl)
  have HGR := Lib.hid (gridP P0.W P0.H w0 h0 wl hl P0.f A c w h)
  have HS := Lib.hid h2
  have HM := Lib.hid hm
  clear hgood w0 h0 wl hl hm h h2
  obtain ⟨W0, H0, f0⟩ := P0
  go_enter Try.func15, Try.ntmps15
  go_wp2_with fail
  refine HGR.out.mono ?_
  rintro e w1 ⟨p, g, ws, rfl, HB, HMB, hb1, hp, hg⟩
  have HMB0 : Hid (∀ x y, x < W0 → y < H0 → mb ws W0 x y = f0 y x) := Lib.hid (fun x y hx hy => by
    rw [HMB.out x y (by omega) hy]; simp [hx])
  have HP := Lib.hid hp
  have HG := Lib.hid hg
  have HB1 := Lib.hid hb1
  clear hb1 hp hg HMB HGR
  go_wp2_with fail
  go_loopw [8, 23] (fun a i wr => ∃ (k g : Nat) (ws : List Nat) (P : Pic) (acc : List Bool), k ≤ m ∧ i = .int .i64 k ∧ Hid (Left l ⟨W0, H0, f0⟩ k P acc) ∧ Hid (w.heap.size ≤ g) ∧ Hid (BM wr p g ws P.W P.H) ∧ Hid (∀ x y, x < P.W → y < P.H → mb ws P.W x y = P.f y x) ∧ Hid (wr.ownsRow w.heap.size 4 1 a k (bvs acc)) ∧ Hid (∀ k, a.ownBlock = some k → k ≠ p ∧ k ≠ g) ∧ Hid (Below w.heap.size w wr)) (fun _ i _ => m - (intOf i).toNat)
  case atStart => exact ⟨0, g, ws, ⟨W0, H0, f0⟩, [], Nat.zero_le _, rfl, HL0, HG, HB, HMB0, Lib.hid (World.ownsRow_nil _ _ _ _), Lib.hid (by simp [Value.ownBlock]), HB1⟩
  case round =>
    obtain ⟨k, g, ws, P, acc, hk, rfl, HL, HG, HB, HMB, HO, HOB, HBE⟩ := hrel
    clear HL0 HB1 HMB0
    by_cases hlt : k < m
    · obtain ⟨b, off, e, hb, hc⟩ := HS.out (by rw [← HM.out]; omega)
      subst e
      have hcs := hc k (by rw [← HM.out]; exact hlt)
      have hgd := HL.out.good1 (by rw [← HM.out]; exact hlt)
      have hnx := HL.out.next (by rw [← HM.out]; exact hlt)
      obtain ⟨s, hs⟩ : ∃ s, s = nthS l k := ⟨_, rfl⟩
      rw [← hs] at hcs hgd hnx
      have cc := fun i v hv => (HBE.out.cell (p := ⟨b, off + k * 6 + i, none⟩) hb).trans (hcs.1 i v hv)
      have c0 := cc 0 _ rfl
      have c1 := cc 1 _ rfl
      have c2 := cc 2 _ rfl
      have c3 := cc 3 _ rfl
      have c4 := cc 4 _ rfl
      have c5 := cc 5 _ rfl
      rw [Nat.add_zero] at c0
      have HRD : Hid (s.op = 9 ∨ s.op = 10 → Rd wr s.A s.n (fun i => .bool (s.B i))) := Lib.hid (fun ho => (hcs.2 ho).keep HBE.out.size (fun q hq => HBE.out.cell hq))
      have HNX := Lib.hid hnx
      have HGD := Lib.hid hgd
      have hpw : p < wr.heap.size := HB.out.plt
      have hgw : g < wr.heap.size := HB.out.glt
      have hq1 : (k : Int) < (m : Int) := by omega
      have hq0 : (0 : Int) ≤ (k : Int) := by omega
      clear hc hcs hgd hnx cc hs
      have HRR := Lib.hid (show ∃ P2 t, P2 = s.run P ∧ t = s.told P from ⟨_, _, rfl, rfl⟩)
      obtain ⟨op, hop⟩ : ∃ op, op = s.op := ⟨_, rfl⟩
      obtain ⟨X, hX⟩ : ∃ X, X = s.X := ⟨_, rfl⟩
      obtain ⟨Y, hY⟩ : ∃ Y, Y = s.Y := ⟨_, rfl⟩
      obtain ⟨C, hC⟩ : ∃ C, C = s.C := ⟨_, rfl⟩
      obtain ⟨D, hD⟩ : ∃ D, D = s.D := ⟨_, rfl⟩
      obtain ⟨SA, hSA⟩ : ∃ A, A = s.A := ⟨_, rfl⟩
      obtain ⟨sn, hsn⟩ : ∃ n, n = s.n := ⟨_, rfl⟩
      obtain ⟨sc, hsc⟩ : ∃ n, n = s.c := ⟨_, rfl⟩
      rw [← hop] at c0
      rw [← hX] at c1
      rw [← hY] at c2
      rw [← hC] at c3
      rw [← hD] at c4
      rw [← hSA, ← hsn, ← hsc] at c5
      rw [← hop, ← hSA, ← hsn] at HRD
      have HOP := Lib.hid hop
      have HX := Lib.hid hX
      have HY := Lib.hid hY
      have HC := Lib.hid hC
      have HD := Lib.hid hD
      have HSN := Lib.hid hsn
      clear hop hX hY hC hD hSA hsn hsc
      go_upto_region 8 with (fail)
      iterate 8 go_step
      obtain ⟨E, hE⟩ : ∃ E, E = wr.heap.size := ⟨_, rfl⟩
      obtain ⟨W1, hW1⟩ : ∃ W1, W1 = wr.alloc (.cells #[.int .i64 op, .int .i64 X, .int .i64 Y, .int .i64 C, .int .i64 D, .slice SA sn sc] 65) := ⟨_, rfl⟩
      rw [← hW1, ← hE]
      have HA : Hid (Arr W1 65 E [.int .i64 op, .int .i64 X, .int .i64 Y, .int .i64 C, .int .i64 D, .slice SA sn sc]) := Lib.hid (by rw [hW1, hE]; exact Arr.new _ _ _)
      have HB1 : Hid (BM W1 p g ws P.W P.H) := Lib.hid (by rw [hW1]; exact HB.out.alloc _)
      have HBW : Hid (Below wr.heap.size wr W1) := Lib.hid (by rw [hW1]; exact (Below.refl _ _).alloc (Nat.le_refl _) _)
      have HRD1 : Hid (op = 9 ∨ op = 10 → Rd W1 SA sn (fun i => .bool (s.B i))) := Lib.hid (fun ho => (HRD.out ho).below HBW.out)
      have a0 := HA.out.cell? 0
      have a1 := HA.out.cell? 1
      have a2 := HA.out.cell? 2
      have a3 := HA.out.cell? 3
      have a4 := HA.out.cell? 4
      have a5 := HA.out.cell? 5
      simp only [List.getElem?_cons_zero, List.getElem?_cons_succ] at a0 a1 a2 a3 a4 a5
      have HEE := Lib.hid hE
      clear hW1 hE c0 c1 c2 c3 c4 c5 HRD HRR
      go_cut [11] (fun e wx => Hid (StepPost p g (s.run P) (s.told P) W1 wx e))
      case first =>
        have hgd := HGD.out
        unfold Stp.good at hgd
        rw [← HOP.out, ← HX.out, ← HY.out, ← HC.out, ← HD.out, ← HSN.out] at hgd
        rcases hgd with ⟨ho, hx0, hx1, hy0, hy1⟩ | ⟨rfl, hx, hy, hc, hd⟩ | rfl | rfl | ⟨rfl, hw⟩ | rfl | ⟨ho, hy0, hy1, hsn⟩
        · obtain ⟨i, rfl⟩ : ∃ i : Nat, X = i := ⟨X.toNat, by omega⟩
          obtain ⟨j, rfl⟩ : ∃ j : Nat, Y = j := ⟨Y.toNat, by omega⟩
          have hi : i < P.W := by omega
          have hj : j < P.H := by omega
          have HWL := Lib.hid HL.out.wl
          have HHL := Lib.hid HL.out.hl
          rcases ho with rfl | rfl | rfl
          · have HCALL := Lib.hid (bm_set i j i j rfl rfl p g P.W P.H ws W1 HB1.out hi hj (by have := HWL.out; omega) (by have := HHL.out; omega))
            have HPOST := Lib.hid (sp1 HB1.out HMB.out HOP.out.symm HX.out.symm HY.out.symm hi hj)
            go_wp2_with fail
            refine HCALL.out.mono ?_
            rintro e w3 ⟨rfl, rfl⟩
            go_wp2_with fail
            go_meet
            case rel => exact HPOST
          · have HCALL := Lib.hid (bm_unset i j i j rfl rfl p g P.W P.H ws W1 HB1.out hi hj (by have := HWL.out; omega) (by have := HHL.out; omega))
            have HPOST := Lib.hid (sp2 HB1.out HMB.out HOP.out.symm HX.out.symm HY.out.symm hi hj)
            go_wp2_with fail
            refine HCALL.out.mono ?_
            rintro e w3 ⟨rfl, rfl⟩
            go_wp2_with fail
            go_meet
            case rel => exact HPOST
          · have HCALL := Lib.hid (bm_flip i j i j rfl rfl p g P.W P.H ws W1 HB1.out hi hj (by have := HWL.out; omega) (by have := HHL.out; omega))
            have HPOST := Lib.hid (sp3 HB1.out HMB.out HOP.out.symm HX.out.symm HY.out.symm hi hj)
            go_wp2_with fail
            refine HCALL.out.mono ?_
            rintro e w3 ⟨rfl, rfl⟩
            go_wp2_with fail
            go_meet
            case rel => exact HPOST
        · have HWL := Lib.hid HL.out.wl
          have HHL := Lib.hid HL.out.hl
          by_cases his : s.isReg P = true
          · have hreg := his
            unfold Stp.isReg at hreg
            rw [decide_eq_true_eq, ← HX.out, ← HY.out, ← HC.out, ← HD.out] at hreg
            obtain ⟨r1, r2, r3, r4, r5, r6⟩ := hreg
            obtain ⟨a, rfl⟩ : ∃ i : Nat, X = i := ⟨X.toNat, by omega⟩
            obtain ⟨b2, rfl⟩ : ∃ i : Nat, Y = i := ⟨Y.toNat, by omega⟩
            obtain ⟨c3, rfl⟩ : ∃ i : Nat, C = i := ⟨C.toNat, by omega⟩
            obtain ⟨d3, rfl⟩ : ∃ i : Nat, D = i := ⟨D.toNat, by omega⟩
            have HCALL := Lib.hid (bm_region a b2 c3 d3 p g P.W P.H ws W1 HB1.out HWL.out HHL.out (by omega) (by omega) (by omega) (by omega))
            have HIS := Lib.hid his
            clear his hx hy hc hd r1 r2 r3 r4 r5 r6
            go_wp2_with fail
            refine HCALL.out.mono ?_
            rintro e w3 ⟨ws2, rfl, h2, hr, hm⟩
            have HPOST := Lib.hid (sp4 HB1.out HMB.out HOP.out.symm HX.out.symm HY.out.symm HC.out.symm HD.out.symm HIS.out h2.out hr.out hm.out)
            go_wp2_with fail
            go_meet
            case rel => exact HPOST
          · have hno : s.isReg P = false := by simpa using his
            have hreg := his
            unfold Stp.isReg at hreg
            rw [decide_eq_true_eq, ← HX.out, ← HY.out, ← HC.out, ← HD.out] at hreg
            have HCALL := Lib.hid (bm_region_no X Y C D p g P.W P.H ws W1 HB1.out hx hy hc hd hreg)
            have HNO := Lib.hid hno
            clear hno his hreg hx hy hc hd
            go_wp2_with fail
            refine HCALL.out.mono ?_
            rintro e w3 ⟨v, rfl, hv, hbe⟩
            have HPOST := Lib.hid (sp4_no HB1.out HMB.out HOP.out.symm HNO.out hv hbe)
            clear hv hbe
            go_wp2_with fail
            go_meet
            case rel => exact HPOST
        · have hwl : ws.length < 1000000 := by
            rw [HB1.out.len]; have h1 := HL.out.wl; have h2 := HL.out.hl
            exact Nat.lt_of_le_of_lt (Nat.mul_le_mul (show (P.W + 31) / 32 ≤ 999 by omega) (show P.H ≤ 999 by omega)) (by decide)
          have HCALL := Lib.hid (bm_flipAll p g P.W P.H ws W1 HB1.out hwl)
          clear hwl
          go_wp2_with fail
          refine HCALL.out.mono ?_
          rintro e w3 ⟨rfl, h2, hm⟩
          have HPOST := Lib.hid (sp5 HB1.out HMB.out HOP.out.symm h2.out hm.out)
          go_wp2_with fail
          go_meet
          case rel => exact HPOST
        · have hwl : ws.length < 1000000 := by
            rw [HB1.out.len]; have h1 := HL.out.wl; have h2 := HL.out.hl
            exact Nat.lt_of_le_of_lt (Nat.mul_le_mul (show (P.W + 31) / 32 ≤ 999 by omega) (show P.H ≤ 999 by omega)) (by decide)
          have HCALL := Lib.hid (bm_clear p g P.W P.H ws W1 HB1.out hwl)
          clear hwl
          go_wp2_with fail
          refine HCALL.out.mono ?_
          rintro e w3 ⟨rfl, h2, hm⟩
          have HPOST := Lib.hid (sp6 HB1.out HMB.out HOP.out.symm h2.out hm.out)
          go_wp2_with fail
          go_meet
          case rel => exact HPOST
        · have HCALL := Lib.hid (bm_rot180 p g P.W P.H ws W1 HB1.out HL.out.wl HL.out.hl HL.out.w0 HL.out.h0 hw)
          clear hw
          go_wp2_with fail
          refine HCALL.out.mono ?_
          rintro e w3 ⟨ws2, rfl, h2, hr, hm⟩
          have HPOST := Lib.hid (sp7 HB1.out HMB.out HOP.out.symm h2.out hr.out hm.out)
          go_wp2_with fail
          go_meet
          case rel => exact HPOST
        · have HCALL := Lib.hid (bm_rot90 p g P.W P.H ws W1 HB1.out HL.out.wl HL.out.hl HL.out.w0 HL.out.h0)
          go_wp2_with fail
          refine HCALL.out.mono ?_
          rintro e w3 ⟨g2, ws2, rfl, h2, hr, hg2, hm⟩
          have HPOST := Lib.hid (sp8 HB1.out HMB.out HOP.out.symm h2.out hr.out hg2 hm.out)
          go_wp2_with fail
          go_meet
          case rel => exact HPOST
        · subst hsn
          obtain ⟨y, rfl⟩ : ∃ i : Nat, Y = i := ⟨Y.toNat, by omega⟩
          have hy : y < P.H := by omega
          have HWL := Lib.hid HL.out.wl
          have HHL := Lib.hid HL.out.hl
          have HARR := Lib.hid (fun w (h : Rd w SA P.W (fun i => .bool (s.B i))) => ba_array SA P.W sc s.B w (by have := HWL.out; omega) h)
          have HW0 := Lib.hid HL.out.w0
          rcases ho with rfl | rfl
          · have HR0 : Hid (Rd W1.drew SA P.W (fun i => .bool (s.B i))) := Lib.hid (HRD1.out (.inl rfl)).drew
            go_wp2_with fail
            go_region_law (first | (go_simp; go_at_call 20; refine (HARR.out _ HR0.out).mono ?_; rintro e w3 ⟨q, r, rs, rfl, hba, hrl, hz, hbe, hq, hr⟩; have HBA := Lib.hid hba; have HRL := Lib.hid hrl; have HZ := Lib.hid hz; have HBE3 : Hid (Below W1.heap.size W1 w3) := Lib.hid ((Below.refl _ _).drew.trans hbe); have a2' := (HBE3.out.cell (p := ⟨E, 2, none⟩) HA.out.lt).trans a2; clear hba hrl hz hbe hq hr) | (go_simp; go_at_call 37; refine (bm_setRow y y rfl p g P.W P.H ws q r P.W rs _ (HB1.out.below HBE3.out HB1.out.plt HB1.out.glt) HBA.out HRL.out hy HW0.out (by have := HWL.out; omega) (by have := HHL.out; omega)).mono ?_; rintro e w4 ⟨rfl, h4, hm4⟩))
            all_goals
              have HPOST := Lib.hid (sp9 HB1.out HMB.out HOP.out.symm HY.out.symm hy HRL.out HZ.out h4.out ((Mod.of_below HBE3.out).trans hm4.out))
              go_wp2_with fail
              go_meet
            all_goals exact HPOST
          · have HNEW := Lib.hid (bm_new P.W P.H HW0.out HL.out.h0 (by have := HWL.out; omega) (by have := HHL.out; omega) W1)
            have HGW := Lib.hid (bm_width p g P.W P.H ws W1 HB1.out)
            have HGH := Lib.hid (bm_height p g P.W P.H ws W1 HB1.out)
            go_wp2_with fail
            refine HGW.out.mono ?_
            rintro e w2 ⟨rfl, rfl⟩
            go_wp2_with fail
            refine HGH.out.mono ?_
            rintro e w2 ⟨rfl, rfl⟩
            go_wp2_with fail
            refine HNEW.out.mono ?_
            rintro e w2 ⟨p2, g2, rfl, hb2, hbe2, hp2, hg2⟩
            obtain ⟨ms, hms⟩ : ∃ ms, ms = List.replicate ((P.W + 31) / 32 * P.H) 0 := ⟨_, rfl⟩
            rw [← hms] at hb2
            have HZ0 : Hid (∀ x y, mb ms P.W x y = false) := Lib.hid (fun x y => by rw [hms]; exact mb_zeros _ _ _ _)
            have HB2 := Lib.hid hb2
            have HBE2 := Lib.hid hbe2
            have HPG2 : Hid (W1.heap.size ≤ p2 ∧ W1.heap.size ≤ g2) := Lib.hid ⟨hp2, hg2⟩
            have HB12 := Lib.hid (HB1.out.below hbe2 HB1.out.plt HB1.out.glt)
            have HR0 : Hid (Rd w2.drew SA P.W (fun i => .bool (s.B i))) := Lib.hid (((HRD1.out (by simp)).below hbe2).drew)
            have b2' := (hbe2.cell (p := ⟨E, 2, none⟩) HA.out.lt).trans a2
            have b5' := (hbe2.cell (p := ⟨E, 5, none⟩) HA.out.lt).trans a5
            have HAL : Hid (E < w2.heap.size) := Lib.hid (Nat.lt_of_lt_of_le HA.out.lt hbe2.size)
            clear hms hb2 hbe2 hp2 hg2 a0 a1 a2 a3 a4 a5 HNEW HGW HGH
            go_wp2_with fail
            go_region_law (first | (go_simp; go_at_call 20; refine (HARR.out _ HR0.out).mono ?_; rintro e w3 ⟨q, r, rs, rfl, hba, hrl, hz, hbe, hq, hr⟩; have HBA := Lib.hid hba; have HRL := Lib.hid hrl; have HZ := Lib.hid hz; have HBE3 : Hid (Below w2.heap.size w2 w3) := Lib.hid ((Below.refl _ _).drew.trans hbe); have a2' := (HBE3.out.cell (p := ⟨E, 2, none⟩) HAL.out).trans b2'; clear hba hrl hz hbe hq hr) | (go_simp; go_at_call 37; refine (bm_setRow y y rfl p2 g2 P.W P.H ms q r P.W rs _ (HB2.out.below HBE3.out HB2.out.plt HB2.out.glt) HBA.out HRL.out hy HW0.out (by have := HWL.out; omega) (by have := HHL.out; omega)).mono ?_; rintro e w4 ⟨rfl, h4, hm4⟩))
            all_goals
              have HB14 : Hid (BM w4 p g ws P.W P.H) := Lib.hid ((HB12.out.below HBE3.out HB12.out.plt HB12.out.glt).mod hm4.out (by have h1 := HPG2.out.2; have h2 := HB1.out.plt; omega) (by have h1 := HPG2.out.2; have h2 := HB1.out.glt; omega))
              have HXO := Lib.hid (bm_xor p g p2 g2 P.W P.H ws (splice ms (y * ((P.W + 31) / 32)) rs) w4 HB14.out h4.out (by have h1 := HPG2.out.1; have h2 := HB1.out.glt; omega) (by have h1 := HPG2.out.2; have h2 := HB1.out.glt; omega) HWL.out HHL.out)
              have HM4 : Hid (Mod (fun b => b = g) W1 w4) := Lib.hid (((Mod.of_below HBE2.out).trans (Mod.of_below HBE3.out)).then hm4.out (fun i hi h => by have h1 := HPG2.out.2; have h2 : i = g2 := h; omega))
              go_wp2_with fail
              refine HXO.out.mono ?_
              rintro e w5 ⟨ws2, rfl, h5, hx5, hm5⟩
              have HPOST := Lib.hid (sp10 HB1.out HMB.out HOP.out.symm HY.out.symm hy HRL.out HZ.out HB2.out HZ0.out hx5.out h5.out (HM4.out.trans hm5.out))
              go_wp2_with fail
              go_meet
            all_goals exact HPOST
      case rest =>
        obtain ⟨g2, ws2, he, hb2, hf2, hm2, hg2⟩ := hcut.out
        have hgw2 : g < W1.heap.size := Nat.lt_of_lt_of_le hgw HBW.out.size
        have HO4 := Lib.hid (own_mod HO.out ((Mod.of_below (S := fun b => b = p ∨ b = g) HBW.out).trans hm2) (fun q hq h => by
          have h1 := HOB.out q hq
          rcases h with h | h
          · exact h1.1 h
          · exact h1.2 h))
        have HB4 := Lib.hid hb2
        have HF4 := Lib.hid hf2
        have HG4 : Hid (w.heap.size ≤ g2) := Lib.hid (by
          have h1 := HG.out
          have h2 := HBE.out.size
          have h3 := HBW.out.size
          rcases hg2 with h | h
          · rw [h]; exact h1
          · omega)
        have hob4 := (fun (v : Value) (hO : wr.ownsRow w.heap.size 4 1 v k (bvs acc)) (hB : ∀ q, v.ownBlock = some q → q ≠ p ∧ q ≠ g) q (hq : v.ownBlock = some q) => show q ≠ p ∧ q ≠ g2 from ⟨(hB q hq).1, fun e => by
          have h1 := (hO.lt q hq).2
          have h3 := HBW.out.size
          rcases hg2 with h | h
          · exact (hB q hq).2 (e.trans h)
          · omega⟩) _ HO.out HOB.out
        have HOB4 := Lib.hid hob4
        have HBE4 : Hid (Below w.heap.size w wc) := Lib.hid (HBE.out.trans ((HBW.out.mono HBE.out.size).trans (hm2.below (Nat.le_trans HBE.out.size HBW.out.size) (fun q hq => by
          rcases hq with h | h
          · have := HP.out; omega
          · have := HG.out; omega))))
        have HE4 := Lib.hid he
        obtain ⟨t, ht⟩ : ∃ t, t = s.told P := ⟨_, rfl⟩
        rw [← ht] at HNX HE4
        clear hb2 hf2 hm2 hg2 hob4 he HB HMB HO HOB HBE HB1 HA HRD1 a0 a1 a2 a3 a4 a5 hcut HOP HX HY HC HD HSN HGD HL ht
        cases t
        · obtain ⟨eb, hev⟩ : IsErr _ := HE4.out
          subst hev
          clear HE4
          go_wp2_with (at_builtin; refine wpList_pushAt _ _ 22 w.heap.size 4 (.bool false) 1 _ k (bvs acc) (.bool false) rfl rfl rfl rfl Try.underlying22 Try.infoBoolG rfl rfl (by decide) HO4.out (by omega) HBE4.out.size ?_)
          intro v5 w5 hown5 hgr5 hb5 hat5
          rw [bvs_add] at hown5
          have HO5 := Lib.hid hown5
          have HB5 := Lib.hid (HB4.out.keep (hgr5.block p HB4.out.plt (fun e => (HOB4.out p e.symm).1 rfl)) (hgr5.block g2 HB4.out.glt (fun e => (HOB4.out g2 e.symm).2 rfl)))
          have HOB5 : Hid (∀ q, v5.ownBlock = some q → q ≠ p ∧ q ≠ g2) := Lib.hid (fun q hq => by
            rcases hat5 with h | h
            · exact HOB4.out q (by rw [← h, hq])
            · rw [h] at hq; injection hq with hq
              have h1 := HB4.out.plt
              have h2 := HB4.out.glt
              exact ⟨by omega, by omega⟩)
          have HBE5 := Lib.hid (HBE4.out.trans hb5)
          clear hown5 hgr5 hb5 hat5 HO4 HB4 HOB4 HBE4
          go_wp2_with fail
          go_roundw
          case rel => exact ⟨k + 1, g2, ws2, s.run P, acc ++ [false], by omega, by go_num, HNX, HG4, HB5, HF4, HO5, HOB5, HBE5⟩
          case measure => simp [intOf]; omega
        · have hev : _ = Value.nilIface := HE4.out
          subst hev
          clear HE4
          go_wp2_with (at_builtin; refine wpList_pushAt _ _ 22 w.heap.size 4 (.bool false) 1 _ k (bvs acc) (.bool true) rfl rfl rfl rfl Try.underlying22 Try.infoBoolG rfl rfl (by decide) HO4.out (by omega) HBE4.out.size ?_)
          intro v5 w5 hown5 hgr5 hb5 hat5
          rw [bvs_add] at hown5
          have HO5 := Lib.hid hown5
          have HB5 := Lib.hid (HB4.out.keep (hgr5.block p HB4.out.plt (fun e => (HOB4.out p e.symm).1 rfl)) (hgr5.block g2 HB4.out.glt (fun e => (HOB4.out g2 e.symm).2 rfl)))
          have HOB5 : Hid (∀ q, v5.ownBlock = some q → q ≠ p ∧ q ≠ g2) := Lib.hid (fun q hq => by
            rcases hat5 with h | h
            · exact HOB4.out q (by rw [← h, hq])
            · rw [h] at hq; injection hq with hq
              have h1 := HB4.out.plt
              have h2 := HB4.out.glt
              exact ⟨by omega, by omega⟩)
          have HBE5 := Lib.hid (HBE4.out.trans hb5)
          clear hown5 hgr5 hb5 hat5 HO4 HB4 HOB4 HBE4
          go_wp2_with fail
          go_roundw
          case rel => exact ⟨k + 1, g2, ws2, s.run P, acc ++ [true], by omega, by go_num, HNX, HG4, HB5, HF4, HO5, HOB5, HBE5⟩
          case measure => simp [intOf]; omega
    · obtain rfl : k = m := by omega
      obtain ⟨hP, hacc⟩ := HL.out.done HM.out
      have HRO := Lib.hid (rowsOf p g P.W P.H ws P.f HL.out.wl HL.out.hl wr HB.out HMB.out)
      obtain ⟨A3, c3, hv3, _, _, hr3⟩ := Rd.of_own HO.out
      have HR3 : Hid (Rd wr A3 k (fun j => .bool (nthB (toldS l ⟨W0, H0, f0⟩) j))) := Lib.hid (hr3.congr (fun j hj => by
        rw [← hacc]
        have : j < acc.length := by rw [HL.out.len]; exact hj
        rw [nthB_eq this, List.getD_eq_getElem?_getD]
        simp [bvs, this]))
      have HPE := Lib.hid hP
      subst hv3
      clear hP hacc hr3
      go_wp2_with fail
      refine HRO.out.mono ?_
      rintro e w5 ⟨G, rfl, hr5, hb5⟩
      have HR5 := Lib.hid (HR3.out.below hb5)
      have HB5 := Lib.hid (HBE.out.trans (hb5.mono HBE.out.size))
      clear hb5
      go_wp2_with fail
      go_ret2
      rw [HPE.out] at hr5 ⊢
      have hk := HM.out
      subst hk
      exact ⟨G, A3, c3, rfl, hr5, HR5, HB5.out⟩
end Go.Proofs.Ytcfcbcjaiplllaa
