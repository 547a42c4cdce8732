/-
  spec.BIGridSteps, walked. No condition beyond the bounds that the theorem states.
-/
import Derived.Test.YtcfcbcjaiplllaaBHC
namespace Go.Proofs.Ytcfcbcjaiplllaa
open Go.RowKit Go.Qz
set_option linter.unusedVariables false

theorem Try.infoGrid : (Try.prog.info? 65).map (fun i => (i.zero, i.size, i.bytes)) = some (some (.agg #[.int .i64 0, .int .i64 0, .int .i64 0, .int .i64 0, .int .i64 0, .slice none 0 0]), 6, 64) := by kernel_rfl
def StepsPost (W H : Nat) (w : World) (e : Ending) (w' : World) : Prop := ∃ l A c, e = .returned (.slice A l.length c) ∧ l.length ≤ 20 ∧ Hid (Goods l W H) ∧ Hid (Steps w' A l) ∧ Below w.heap.size w w'

set_option maxRecDepth 100000 in
set_option maxHeartbeats 6400000 in
theorem biGridSteps (W0 H0 : Nat) (hW : 0 < W0) (hH : 0 < H0) (hWl : W0 < 200) (hHl : H0 < 200) (A : Option Addr) (n c : Nat) (Z : Nat → Raw) (hnz : ∀ j, j < n → (Z j).n < 4294967296) (w : World) (h : Raws w A n Z) :
    Calls Try.prog 14 #[.int .i64 W0, .int .i64 H0, .slice A n c, .int .i64 20] w (StepsPost W0 H0 w) := by
  have HR := Lib.hid h
  have HNZ := Lib.hid hnz
  have HB0 : Hid (0 < W0 ∧ 0 < H0 ∧ W0 < 200 ∧ H0 < 200) := Lib.hid ⟨hW, hH, hWl, hHl⟩
  clear h hnz hW hH hWl hHl
  go_enter Try.func14, Try.ntmps14
  go_wp2_with fail
  go_loopw [0, 1, 9, 10] (fun a b v i wr => ∃ (q W H : Nat) (l : List Stp), q ≤ n ∧ q ≤ 20 ∧ i = .int .i64 q ∧ a = .int .i64 W ∧ b = .int .i64 H ∧ l.length ≤ q ∧ Hid (0 < W ∧ 0 < H ∧ W < 200 ∧ H < 200) ∧ Hid (Made l W0 H0 W H) ∧ Hid (Pile6 wr w.heap.size v l) ∧ Hid (Below w.heap.size w wr)) (fun _ _ _ i _ => 1000 - (intOf i).toNat)
  case atStart => exact ⟨0, W0, H0, [], Nat.zero_le _, by omega, rfl, rfl, rfl, Nat.le_refl _, HB0, Lib.hid (Made.nil _ _), Lib.hid (Pile6.nil _ _), Lib.hid (Below.refl _ _)⟩
  case round =>
    obtain ⟨q, W, H, l, hq, hq20, rfl, rfl, rfl, hlq, HBD, HMA, HPI, HBE⟩ := hrel
    by_cases hgo : q < n ∧ q < 20
    · obtain ⟨hlt, hlt20⟩ := hgo
      obtain ⟨b, off, e, hb, hc⟩ := HR.out (by omega)
      subst e
      obtain ⟨hcs, hin, hnc, hcm, hrd⟩ := hc q hlt
      have hnq := HNZ.out q hlt
      obtain ⟨s, hs⟩ : ∃ s, s = Z q := ⟨_, rfl⟩
      rw [← hs] at hcs hin hnc hcm hrd hnq
      have cc := fun i v hv => (HBE.out.cell (p := ⟨b, off + q * 6 + i, none⟩) hb).trans (hcs i v hv)
      obtain ⟨op, X, Y, CC, D, SA, sn, sc, B⟩ := s
      have c0 : wr.cell? ⟨b, off + q * 6 + 0, none⟩ = some (.int .i64 op) := cc 0 _ rfl
      have c1 : wr.cell? ⟨b, off + q * 6 + 1, none⟩ = some (.int .i64 X) := cc 1 _ rfl
      have c2 : wr.cell? ⟨b, off + q * 6 + 2, none⟩ = some (.int .i64 Y) := cc 2 _ rfl
      have c3 : wr.cell? ⟨b, off + q * 6 + 3, none⟩ = some (.int .i64 CC) := cc 3 _ rfl
      have c4 : wr.cell? ⟨b, off + q * 6 + 4, none⟩ = some (.int .i64 D) := cc 4 _ rfl
      have c5 : wr.cell? ⟨b, off + q * 6 + 5, none⟩ = some (.slice SA sn sc) := cc 5 _ rfl
      rw [Nat.add_zero] at c0
      have HIN : Hid (i64In X ∧ i64In Y) := Lib.hid ⟨hin.2.1, hin.2.2.1⟩
      have HRD : Hid (Rd wr SA sn (fun i => .bool (B i))) := Lib.hid (hrd.keep HBE.out.size (fun a ha => HBE.out.cell ha))
      have HSN : Hid (sn < 4294967296) := Lib.hid hnq
      have HAW : Hid (∀ a, SA = some a → 0 < sn → a.block < wr.heap.size) := Lib.hid (fun a ha h0 => by
        obtain ⟨b9, o9, e9, hb9, _⟩ := hrd h0
        rw [ha] at e9; injection e9 with e9
        rw [e9]; exact Nat.lt_of_lt_of_le hb9 HBE.out.size)
      have hq1 : (q : Int) < (n : Int) := by omega
      have hq0 : (0 : Int) ≤ (q : Int) := by omega
      have hq2 : (q : Int) < 20 := by omega
      clear hc hcs hin hnc hcm hrd hnq cc hs
      go_upto_region 5 with (fail)
      iterate 23 go_step
      obtain ⟨E, hE⟩ : ∃ E, E = wr.heap.size := ⟨_, rfl⟩
      obtain ⟨W1, hW1⟩ : ∃ W1, W1 = wr.alloc (.cells #[.int .i64 op, .int .i64 X, .int .i64 Y, .int .i64 CC, .int .i64 D, .slice SA sn sc] 65) := ⟨_, rfl⟩
      rw [← hW1, ← hE]
      have HA : Hid (Arr W1 65 E [.int .i64 op, .int .i64 X, .int .i64 Y, .int .i64 CC, .int .i64 D, .slice SA sn sc]) := Lib.hid (by rw [hW1, hE]; exact Arr.new _ _ _)
      have HBW : Hid (Below wr.heap.size wr W1) := Lib.hid (by rw [hW1]; exact (Below.refl _ _).alloc (Nat.le_refl _) _)
      have HRD1 : Hid (Rd W1 SA sn (fun i => .bool (B i))) := Lib.hid (HRD.out.below HBW.out)
      have HSE : Hid (∀ a, SA = some a → 0 < sn → ¬ a.block = E) := Lib.hid (fun a ha h0 e => by have := HAW.out a ha h0; omega)
      have HEE := Lib.hid hE
      clear hW1 hE c0 c1 c2 c3 c4 c5 HRD HAW
      go_cut [0, 1] (fun a b wx => Hid (GSPost W H E W1 wx a b))
      case first =>
        rename_i J K' hJ hK
        have hops : op = 1 ∨ op = 2 ∨ op = 3 ∨ op = 4 ∨ op = 5 ∨ op = 6 ∨ op = 7 ∨ op = 8 ∨ op = 9 ∨ op = 10 ∨ (¬ op = 1 ∧ ¬ op = 2 ∧ ¬ op = 3 ∧ ¬ op = 4 ∧ ¬ op = 5 ∧ ¬ op = 6 ∧ ¬ op = 7 ∧ ¬ op = 8 ∧ ¬ op = 9 ∧ ¬ op = 10) := by omega
        rcases hops with rfl | rfl | rfl | rfl | rfl | rfl | rfl | rfl | rfl | rfl | ⟨n1, n2, n3, n4, n5, n6, n7, n8, n9, n10⟩
        · exact Qp.wp (gs1 hJ hK HA HIN HBD.out.1 HBD.out.2.1 HBD.out.2.2.1 HBD.out.2.2.2 HRD1 HSN)
        · exact Qp.wp (gs2 hJ hK HA HIN HBD.out.1 HBD.out.2.1 HBD.out.2.2.1 HBD.out.2.2.2 HRD1 HSN)
        · exact Qp.wp (gs3 hJ hK HA HIN HBD.out.1 HBD.out.2.1 HBD.out.2.2.1 HBD.out.2.2.2 HRD1 HSN)
        · exact Qp.wp (gs4 hJ hK HA HIN HBD.out.1 HBD.out.2.1 HBD.out.2.2.1 HBD.out.2.2.2 HRD1 HSN)
        · exact gs5 hJ hK HA HIN HBD.out.1 HBD.out.2.1 HBD.out.2.2.1 HBD.out.2.2.2 HRD1 HSN
        · exact gs6 hJ hK HA HIN HBD.out.1 HBD.out.2.1 HBD.out.2.2.1 HBD.out.2.2.2 HRD1 HSN
        · by_cases hw : W % 32 = 0
          · have ew : (W : Int) % 32 = 0 := by omega
            have ew2 : (W : Int).tmod 32 = 0 := by rw [Int.tmod_eq_emod_of_nonneg (by omega)]; exact ew
            clear hw
            have HP1 := Lib.hid (HPI.out.below HBW.out)
            have HBE1 := Lib.hid (HBE.out.trans (HBW.out.mono HBE.out.size))
            have a0 := HA.out.cell? 0
            simp only [List.getElem?_cons_zero] at a0
            clear HA HPI HBE
            go_wp2_with fail
            go_roundw
            case rel => exact ⟨q + 1, W, H, l, by omega, by omega, by go_num, rfl, rfl, by omega, HBD, HMA, HP1, HBE1⟩
            case measure => simp [intOf]; omega
          · exact gs7 hJ hK HA HIN HBD.out.1 HBD.out.2.1 HBD.out.2.2.1 HBD.out.2.2.2 HRD1 HSN hw
        · exact gs8 hJ hK HA HIN HBD.out.1 HBD.out.2.1 HBD.out.2.2.1 HBD.out.2.2.2 HRD1 HSN
        · exact gs9 hJ hK HA HIN HBD.out.1 HBD.out.2.1 HBD.out.2.2.1 HBD.out.2.2.2 HRD1 HSN HSE
        · exact gs10 hJ hK HA HIN HBD.out.1 HBD.out.2.1 HBD.out.2.2.1 HBD.out.2.2.2 HRD1 HSN HSE
        · have HP1 := Lib.hid (HPI.out.below HBW.out)
          have HBE1 := Lib.hid (HBE.out.trans (HBW.out.mono HBE.out.size))
          have a0 := HA.out.cell? 0
          simp only [List.getElem?_cons_zero] at a0
          clear HA HPI HBE
          go_wp2_with fail
          go_roundw
          case rel => exact ⟨q + 1, W, H, l, by omega, by omega, by go_num, rfl, rfl, by omega, HBD, HMA, HP1, HBE1⟩
          case measure => simp [intOf]; omega
      case rest =>
        obtain ⟨s, hg, rfl, rfl, harr, hbits, hmod⟩ := hcut.out
        have HBC : Hid (Below wr.heap.size wr wc) := Lib.hid (HBW.out.trans (hmod.below HBW.out.size (fun k hk => by have := HEE.out; omega)))
        have HP2 := Lib.hid (HPI.out.below HBC.out)
        have HBE2 := Lib.hid (HBE.out.trans (HBC.out.mono HBE.out.size))
        have HMA2 := Lib.hid (HMA.out.add hg)
        have HOL : Hid (∀ k, (_ : Value).ownBlock = some k → k < wr.heap.size) := Lib.hid (fun k hk => (HPI.out.own.lt k hk).2)
        have HBT : Hid (s.op = 9 ∨ s.op = 10 → ∃ b, s.A = some ⟨b, 0, none⟩ ∧ b < wc.heap.size ∧ W1.heap.size ≤ b ∧ ∀ i, i < s.n → wc.cell? ⟨b, i, none⟩ = some (.bool (s.B i))) := Lib.hid (fun ho => by
          obtain ⟨b, k1, k2, k3, k4⟩ := hbits ho
          exact ⟨b, k1, k3, k2, k4⟩)
        have HBD2 : Hid (0 < (if s.op = 8 then H else W) ∧ 0 < (if s.op = 8 then W else H) ∧ (if s.op = 8 then H else W) < 200 ∧ (if s.op = 8 then W else H) < 200) := Lib.hid (by
          obtain ⟨k1, k2, k3, k4⟩ := HBD.out
          by_cases e : s.op = 8
          · simp only [if_pos e]; exact ⟨k2, k1, k4, k3⟩
          · simp only [if_neg e]; exact ⟨k1, k2, k3, k4⟩)
        obtain ⟨W2, hW2⟩ : ∃ x, x = (if s.op = 8 then H else W) := ⟨_, rfl⟩
        obtain ⟨H2, hH2⟩ : ∃ x, x = (if s.op = 8 then W else H) := ⟨_, rfl⟩
        rw [← hW2, ← hH2] at HMA2 HBD2 ⊢
        have e0 := harr.cell? 0
        have e1 := harr.cell? 1
        have e2 := harr.cell? 2
        have e3 := harr.cell? 3
        have e4 := harr.cell? 4
        have e5 := harr.cell? 5
        simp only [Stp.cells, List.getElem?_cons_zero, List.getElem?_cons_succ] at e0 e1 e2 e3 e4 e5
        have HOWN := Lib.hid HP2.out.own
        have hll : l.length < 1099511627776 := by omega
        have hone : ∀ u ∈ s.cells, u.oneCell' = true := by intro u hu; simp only [Stp.cells, List.mem_cons, List.not_mem_nil, or_false] at hu; rcases hu with rfl | rfl | rfl | rfl | rfl | rfl <;> rfl
        have HSZ := Lib.hid HBW.out.size
        clear hW2 hH2 hg harr hbits hmod hcut HA HRD1 HSE HPI HBE HMA HBD
        go_wp2_with (at_builtin; refine wpList_pushS _ _ 34 w.heap.size 65 (.agg #[.int .i64 0, .int .i64 0, .int .i64 0, .int .i64 0, .int .i64 0, .slice none 0 0]) 6 64 _ l.length (l.flatMap Stp.cells) s.cells rfl (by decide) rfl rfl rfl rfl Try.underlying34 Try.infoGrid rfl hone (by decide) HOWN.out hll HBE2.out.size ?_)
        intro v5 w5 hown5 hgr5 hb5 hat5
        have HP5 := Lib.hid (HP2.out.push hown5 hgr5 hat5 (fun ho => by
          obtain ⟨b, k1, k2, k3, k4⟩ := HBT.out ho
          exact ⟨b, k1, k2, fun e => by have h1 := HOL.out b e; have h2 := HSZ.out; omega, k4⟩))
        have HBE5 := Lib.hid (HBE2.out.trans hb5)
        clear hown5 hgr5 hb5 hat5 HP2 HBE2 HOWN hone HBT HOL e0 e1 e2 e3 e4 e5
        go_wp2_with fail
        go_roundw
        case rel => exact ⟨q + 1, W2, H2, l ++ [s], by omega, by omega, by go_num, rfl, rfl, by rw [List.length_append]; simp; omega, HBD2, HMA2, HP5, HBE5⟩
        case measure => simp [intOf]; omega
    · obtain ⟨A', c', hve, hc', hcm', hst⟩ := HPI.out.steps
      have HST := Lib.hid hst
      have HGO := Lib.hid HMA.out.goods
      obtain hno | hno : ((q : Int) < (n : Int) ∧ ((q : Int) < 20) = False) ∨ ((q : Int) < (n : Int)) = False := by
        by_cases h : q < n
        · exact .inl ⟨by omega, by simp; omega⟩
        · exact .inr (by simp; omega)
      all_goals
        subst hve
        clear hst HPI HMA hgo
        try (obtain ⟨hq1, hq2⟩ := hno)
        go_wp2_with fail
        go_ret
        exact ⟨l, A', c', rfl, by omega, HGO, HST, HBE.out⟩
end Go.Proofs.Ytcfcbcjaiplllaa
