/-
  The statement FnRDPureBits, walked. No condition.
-/
import Derived.Test.YtfnfikmijkeimaaRDH
import Derived.Test.YtfnfikmijkeimaaRDQ
import Derived.StillTailTactics
namespace Go.Proofs.Ytfnfikmijkeimaa
open Go.RowKit Go.Qz
set_option linter.unusedVariables false

theorem u8_ofInt (a : Nat) (ha : a < 256) : (BitVec.ofInt 8 (a : Int)).toNat = a := by
  rw [BitVec.toNat_ofInt]; omega
theorem u8_xor (a b : Nat) (ha : a < 256) (hb : b < 256) : bits .xor .u8 (a : Int) (b : Int) = ((a ^^^ b : Nat) : Int) := by
  have h : a ^^^ b < 256 := Nat.xor_lt_two_pow (n := 8) ha hb
  simp only [bits]
  show IntKind.u8.wrap (((BitVec.ofInt 8 a ^^^ BitVec.ofInt 8 b).toNat : Nat) : Int) = _
  rw [BitVec.toNat_xor, u8_ofInt a ha, u8_ofInt b hb, IntKind.wrap_u8]
  omega
theorem Try.infoU8R : (Try.prog.info? 5).map (fun i => (i.zero, i.size, i.bytes)) = some (some (.int .u8 0), 1, 1) := by kernel_rfl
theorem info7R : (Try.prog.info? 27).map (·.size) = some 7 := by kernel_rfl
theorem one7R (s : DS) : (dcells s).toArray.all (·.oneCell') = true := by simp [dcells]; exact ⟨rfl, rfl, rfl, rfl, rfl, rfl, rfl⟩
def z7R : List Value := [.int .i64 0, .int .i64 0, .int .i64 0, .int .i64 0, .int .i64 0, .int .i64 0, .int .i64 0]

set_option maxRecDepth 100000 in
set_option maxHeartbeats 16000000 in
theorem fnRDPureBits (n c : Nat) (hnc : n ≤ c) (hcm : c ≤ maxLen) (z : Nat → Nat) (hz : ∀ j, z j < 256) (q : Nat) (hq : q < 256) (p : Nat → Nat) (hp : ∀ i, p i < 256) (A : Option Addr) (P : Array Value) (hP : P = (rowV (fun i => .int .u8 (p i : Nat)) 5).toArray) (w : World) (h : Rd w A n (fun j => .int .u8 (z j : Nat))) :
    Calls Try.prog 3 #[.slice A n c, .int .u8 q, .agg P] w (TrueEnd w) := by
  by_cases hbig : (2147483647 : Int) < n
  · have hb1 : Below w.heap.size w (w.alloc (.cells P 23)) := (Below.refl _ _).alloc (Nat.le_refl _) _
    clear hP
    go_enter Try.func3, Try.ntmps3
    go_wp2_with fail
    go_ret
    exact ⟨rfl, hb1⟩
  have hn : n ≤ 2147483647 := by omega
  have HR := Lib.hid h
  have HP := Lib.hid hP
  obtain ⟨E, hE⟩ : ∃ E, E = w.heap.size := ⟨_, rfl⟩
  obtain ⟨W0, hW0⟩ : ∃ W0, W0 = w.alloc (.cells P 23) := ⟨_, rfl⟩
  have HB0 : Hid (Below E w W0) := Lib.hid (by rw [hW0, hE]; exact (Below.refl _ _).alloc (Nat.le_refl _) _)
  have HA0 : Hid (Arr W0 23 E (rowV (fun i => .int .u8 (p i : Nat)) 5)) := Lib.hid (by rw [hW0, hE, hP]; exact Arr.new w _ _)
  have HE := Lib.hid hE
  have HW0 := Lib.hid hW0
  have HTB := Lib.hid (dmSizes W0)
  obtain ⟨t, ht⟩ : ∃ t, t = q % 30 := ⟨_, rfl⟩
  have ht30 : t < 30 := by omega
  have e1 : (q : Int).tmod 30 = (t : Int) := by rw [Int.tmod_eq_emod_of_nonneg (by omega)]; omega
  have e1' : (q : Int) % 30 = (t : Int) := by omega
  have hnb : ¬ (2147483647 : Int) < (n : Int) := hbig
  clear h hP hE hW0 hbig ht hcm
  go_enter Try.func3, Try.ntmps3
  go_wp2_with fail
  rw [← HE.out, ← HW0.out]
  refine HTB.out.mono ?_
  rintro e w1 ⟨b, rfl, hb1, hAT⟩
  have HB1 := Lib.hid (HB0.out.trans (hb1.mono (by have := HA0.out.lt; omega)))
  have HA1 := Lib.hid (HA0.out.below hb1 HA0.out.lt)
  obtain ⟨t1, t2, t3, t4, t5, t6, t7⟩ := tabV_at t ht30
  have c0 := (hAT.out.cell? (t * 7)).trans t1
  have c1 := (hAT.out.cell? (t * 7 + 1)).trans t2
  have c2 := (hAT.out.cell? (t * 7 + 2)).trans t3
  have c3 := (hAT.out.cell? (t * 7 + 3)).trans t4
  have c4 := (hAT.out.cell? (t * 7 + 4)).trans t5
  have c5 := (hAT.out.cell? (t * 7 + 5)).trans t6
  have c6 := (hAT.out.cell? (t * 7 + 6)).trans t7
  have hOK := szOk t ht30
  obtain ⟨s, hs⟩ : ∃ s, s = sz t := ⟨_, rfl⟩
  rw [← hs] at c0 c1 c2 c3 c4 c5 c6 hOK
  have HOK := Lib.hid hOK
  have tt0 : (0 : Int) ≤ (t : Int) := by omega
  have tt1 : (t : Int) < 30 := by omega
  clear hb1 hAT t1 t2 t3 t4 t5 t6 t7 hs hOK HTB HW0
  obtain ⟨D, hD⟩ : ∃ D, D = w1.heap.size := ⟨_, rfl⟩
  obtain ⟨W2, hW2⟩ : ∃ W2, W2 = w1.alloc (.cells z7R.toArray 27) := ⟨_, rfl⟩
  have HZ2 : Hid (Arr W2 27 D z7R) := Lib.hid (by rw [hW2, hD]; exact Arr.new w1 _ _)
  have hb2 : Below w1.heap.size w1 W2 := by rw [hW2]; exact (Below.refl _ _).alloc (Nat.le_refl _) _
  obtain ⟨W3, hW3⟩ : ∃ W3, W3 = W2.setRow D (dcells s).toArray := ⟨_, rfl⟩
  have HA3 : Hid (Arr W3 27 D (dcells s)) := Lib.hid (by rw [hW3]; exact setRow_heap W2 D _ (dcells s).toArray _ _ HZ2.out)
  have hb3 : Below D w1 W3 := by rw [hW3]; exact (hb2.mono (by omega)).trans ((Mod.setRow W2 D (dcells s).toArray).below (Nat.le_of_lt HZ2.out.lt) (fun k hk => by rw [hk]; exact Nat.le_refl _))
  have HB3 : Hid (Below E w W3) := Lib.hid (HB1.out.trans (hb3.mono (by have := HB1.out.size; have := HE.out; omega)))
  have HA3' : Hid (Arr W3 23 E (rowV (fun i => .int .u8 (p i : Nat)) 5)) := Lib.hid (HA1.out.below hb3 (by have := HA1.out.lt; omega))
  obtain ⟨d0, d1, d2, d3, d4, d5, d6⟩ := dcellsOf HA3.out
  obtain ⟨N, hN⟩ : ∃ N, N = s.dt + s.er := ⟨_, rfl⟩
  have e2 : IntKind.i64.wrap ((s.dt : Int) + (s.er : Int)) = (N : Int) := by have := HOK.out.d1; rw [IntKind.wrap_i64]; omega
  have hN3 : N ≤ 3000 := by have := HOK.out.d1; omega
  have hmk := fun X => run_make1 (P := Try.prog) 22 5 (.int .u8 0) 1 Try.underlying22 Try.infoU8R rfl (by decide) N (by omega) .i64 .i64 N rfl X
  have HD := Lib.hid hD
  have HW2 := Lib.hid hW2
  have HW3 := Lib.hid hW3
  clear hD hW2 hW3 hb2 hb3 hN d0 d1 d2 d3 d6
  go_wp2_with (rw [← HD.out, show w1.alloc (.cells #[.int .i64 0, .int .i64 0, .int .i64 0, .int .i64 0, .int .i64 0, .int .i64 0, .int .i64 0] 27) = W2 from HW2.out.symm]; refine wpList_store_row rfl 27 (.tmp 8) (.tmp 27) rfl D (dcells s).toArray rfl rfl 27 _ HZ2.out info7R rfl (one7R s) ?_; rw [← HW3.out])
  obtain ⟨X, hX⟩ : ∃ X, X = W3.heap.size := ⟨_, rfl⟩
  obtain ⟨W4, hW4⟩ : ∃ W4, W4 = W3.alloc (.cells (zeros N (.int .u8 0)) 5) := ⟨_, rfl⟩
  have hb4 : Below W3.heap.size W3 W4 := by rw [hW4]; exact (Below.refl _ _).alloc (Nat.le_refl _) _
  have HX4 : Hid (Arr W4 5 X (rowV (fun j => .int .u8 ((fun _ => 0) j : Nat)) N)) := Lib.hid (by
    rw [hW4, hX, show rowV (fun j => Value.int .u8 (((fun _ => 0) j : Nat) : Int)) N = List.replicate N (.int .u8 0) from rowV_const _ _]
    exact Arr.new W3 _ _)
  rw [← hX, ← hW4]
  have HB4 := Lib.hid (HB3.out.trans (hb4.mono (by have := HA3.out.lt; have := HB3.out.size; have := HE.out; omega)))
  have HA4 := Lib.hid (HA3.out.below hb4 HA3.out.lt)
  have HP4 := Lib.hid (HA3'.out.below hb4 HA3'.out.lt)
  have HXE : Hid (E < X ∧ D < X) := Lib.hid (by have := HA3.out.lt; have := HA3'.out.lt; omega)
  clear hX hW4 hb4 HA3 HA3' HB3 HZ2 d4 d5 HW2 HW3 c0 c1 c2 c3 c4 c5 c6 HA1 HB1 HA0 HB0
  go_loopw [36] (fun i wr => ∃ (j : Nat) (r : Nat → Nat), j ≤ N ∧ i = .int .i64 j ∧ Hid (Arr wr 5 X (rowV (fun j => .int .u8 (r j : Nat)) N)) ∧ Hid (Mod (· = X) W4 wr)) (fun i _ => N - (intOf i).toNat)
  case atStart => exact ⟨0, _, by omega, rfl, HX4, Lib.hid (Mod.refl _)⟩
  case round =>
    obtain ⟨wo, hwo⟩ : ∃ wo, wo = wr := ⟨_, rfl⟩
    rw [← hwo] at hrel ⊢
    clear hwo
    obtain ⟨j, r, hj, rfl, HXj, HM⟩ := hrel
    have HBo : Hid (Below E w wo) := Lib.hid (HB4.out.trans (HM.out.below (by have := HB4.out.size; have := HE.out; omega) (fun k hk => by have := HXE.out; omega)))
    by_cases hlt : j < N
    · have hj0 : (0 : Int) ≤ (j : Int) := by omega
      have hj1 : (j : Int) < (N : Int) := by omega
      by_cases hn0 : 0 < n
      · have hn1 : (0 : Int) < (n : Int) := by omega
        obtain ⟨rb, ro, rfl, hrb, hrc⟩ := HR.out hn0
        obtain ⟨m, hm⟩ : ∃ m, m = j % n := ⟨_, rfl⟩
        have hmn : m < n := by rw [hm]; exact Nat.mod_lt _ hn0
        have cz := (HBo.out.drew.cell (p := ⟨rb, ro + m, none⟩) (by rw [HE.out]; exact hrb)).trans (hrc m hmn)
        dsimp only at cz
        have hzm := hz m
        obtain ⟨x, hx⟩ : ∃ x, x = z m := ⟨_, rfl⟩
        rw [← hx] at cz hzm
        obtain ⟨u, hu⟩ : ∃ u, u = j / n := ⟨_, rfl⟩
        obtain ⟨v, hv⟩ : ∃ v, v = u % 256 := ⟨_, rfl⟩
        have hub : u ≤ 3000 := by rw [hu]; exact Nat.le_trans (Nat.div_le_self _ _) (by omega)
        have f1 := fun Y => rem_run (j : Int) (n : Int) (m : Int) (by omega) (by rw [Int.tmod_eq_emod_of_nonneg (by omega), hm]; simp) Y
        have f1' : (j : Int) % (n : Int) = (m : Int) := by rw [hm]; simp
        have f1t : (j : Int).tmod (n : Int) = (m : Int) := by rw [Int.tmod_eq_emod_of_nonneg (by omega), hm]; simp
        have f2 : (j : Int).tdiv (n : Int) = (u : Int) := by rw [Int.tdiv_eq_ediv_of_nonneg (by omega), hu]; simp
        have f2' : (j : Int) / (n : Int) = (u : Int) := by rw [hu]; simp
        have f3 : IntKind.u8.wrap (u : Int) = (v : Int) := by rw [IntKind.wrap_u8]; omega
        have f4 : IntKind.i64.wrap (u : Int) = (u : Int) := by rw [IntKind.wrap_i64]; omega
        have f5 : bits .xor .u8 (x : Int) (v : Int) = ((x ^^^ v : Nat) : Int) := u8_xor x v hzm (by omega)
        obtain ⟨y, hy⟩ : ∃ y, y = x ^^^ v := ⟨_, rfl⟩
        rw [← hy] at f5
        have m0 : (0 : Int) ≤ (m : Int) := by omega
        have m1 : (m : Int) < (n : Int) := by omega
        have nn : ¬ (n : Int) = 0 := by omega
        have nn2 : ¬ n = 0 := by omega
        have cx := (HXj.out.below (show Below wo.heap.size wo wo.drew from (Below.refl _ _).drew) HXj.out.lt).cell? j
        rw [rowV_get _ _ _ hlt] at cx
        have fx := (HXj.out.below (show Below wo.heap.size wo wo.drew from (Below.refl _ _).drew) HXj.out.lt).free j
        have HX5 : Hid (Arr (wo.drew.setCell ⟨X, j, none⟩ (.int .u8 y)) 5 X (rowV (fun i => .int .u8 ((if i = j then y else r i : Nat) : Int)) N)) := Lib.hid (by
          have := (HXj.out.below (show Below wo.heap.size wo wo.drew from (Below.refl _ _).drew) HXj.out.lt).set_ j (.int .u8 y)
          rw [rowV_set (g := fun i => .int .u8 ((if i = j then y else r i : Nat) : Int)) (fun i hi => by by_cases e : i = j <;> simp [e])] at this
          exact this)
        have HM5 : Hid (Mod (· = X) W4 (wo.drew.setCell ⟨X, j, none⟩ (.int .u8 y))) := Lib.hid (HM.out.drew.trans (Mod.set1 _ X j _))
        have cz' : wo.cell? ⟨rb, ro + m, none⟩ = some (.int .u8 x) := cz
        clear hrc hm hx hu hv hy HXj HM hz
        go_wp2_with fail
        go_still_tail 16, (by kernel_rfl)
        repeat still_step
        try refine wpStill_nil ?_
        change wpList _ _ _ _ _ wo.drew
        obtain ⟨w7, hw7⟩ : ∃ w7, w7 = wo.drew := ⟨_, rfl⟩
        rw [← hw7] at HX5 HM5 cx fx ⊢
        clear hw7 cz cz'
        go_wp2_with fail
        go_roundw
        case rel => exact ⟨j + 1, _, by omega, by go_num, HX5, HM5⟩
        case measure => simp [intOf]; omega
      · have hn1 : ¬ (0 : Int) < (n : Int) := by omega
        have hn2 : decide ((0 : Int) < (n : Int)) = false := by simpa using hn1
        clear hn1
        go_wp2_with fail
        go_roundw
        case rel => exact ⟨j + 1, r, by omega, by go_num, HXj, HM⟩
        case measure => simp [intOf]; omega
    · obtain rfl : j = N := by omega
      have HDo : Hid (Arr wo 27 D (dcells s)) := Lib.hid (HA4.out.mod HM.out (by have := HXE.out; omega))
      have HEo : Hid (Arr wo 23 E (rowV (fun i => .int .u8 (p i : Nat)) 5)) := Lib.hid (HP4.out.mod HM.out (by have := HXE.out; omega))
      obtain ⟨k0, k1, k2, k3, k4, k5, k6⟩ := dcellsOf HDo.out
      have hrd : Rd wo (some ⟨X, 0, none⟩) j (fun i => .int .u8 (r i : Nat)) := fun _ => ⟨X, 0, rfl, HXj.out.lt, fun i hi => by rw [Nat.zero_add, HXj.out.cell?, rowV_get _ _ _ hi]⟩
      have hsy := dmSymbol s HOK.out j j (by omega) (some ⟨X, 0, none⟩) r wo hrd
      unfold dsv at hsy
      have HSY := Lib.hid hsy
      clear hrd hsy HXj HM HB4 HA4 HP4 HX4 hmk
      go_wp2_with fail
      refine HSY.out.mono ?_
      rintro e w5 ⟨A1, cap, F, rfl, HQ1, HFR, hb5⟩
      have HB5 := Lib.hid (HBo.out.trans (hb5.mono (by have := HDo.out.lt; have := HEo.out.lt; omega)))
      have HE5 := Lib.hid (HEo.out.below hb5 HEo.out.lt)
      have s1 := HOK.out.r0
      have s2 := HOK.out.r1
      have s3 := HOK.out.c0
      have s4 := HOK.out.c1
      have p0 := HE5.out.cell? 0
      have p1 := HE5.out.cell? 1
      have p2 := HE5.out.cell? 2
      have p3 := HE5.out.cell? 3
      have p4 := HE5.out.cell? 4
      rw [rowV_get _ _ _ (by omega)] at p0 p1 p2 p3 p4
      have HBX := Lib.hid (rdBox s.rows s.cols cap (by omega) (by omega) (by omega) (by omega) F A1 p hp #[.int .u8 (p 0), .int .u8 (p 1), .int .u8 (p 2), .int .u8 (p 3), .int .u8 (p 4)] rfl w5 HQ1.out.2.2)
      obtain ⟨y0, hy0⟩ : ∃ y, y = p 0 := ⟨_, rfl⟩
      obtain ⟨y1, hy1⟩ : ∃ y, y = p 1 := ⟨_, rfl⟩
      obtain ⟨y2, hy2⟩ : ∃ y, y = p 2 := ⟨_, rfl⟩
      obtain ⟨y3, hy3⟩ : ∃ y, y = p 3 := ⟨_, rfl⟩
      obtain ⟨y4, hy4⟩ : ∃ y, y = p 4 := ⟨_, rfl⟩
      rw [← hy0] at p0 HBX
      rw [← hy1] at p1 HBX
      rw [← hy2] at p2 HBX
      rw [← hy3] at p3 HBX
      rw [← hy4] at p4 HBX
      clear hb5 HSY k0 k1 k2 k3 k4 k5 k6 hy0 hy1 hy2 hy3 hy4 hp
      go_wp2_with fail
      refine HBX.out.mono ?_
      rintro e w6 ⟨B, l, rfl, HBK, hb6⟩
      have HB6 := Lib.hid (HB5.out.trans (hb6.mono (by have := HE5.out.lt; omega)))
      have HQ6 : Hid (Rows2 w6 A1 s.rows s.cols F) := Lib.hid (HQ1.out.2.2.below hb6)
      obtain ⟨L, hL⟩ : ∃ L, L = w6.heap.size := ⟨_, rfl⟩
      obtain ⟨W7, hW7⟩ : ∃ W7, W7 = w6.alloc (.cells #[.int .i64 0, .int .i64 0, .int .i64 0, .int .i64 0] 30) := ⟨_, rfl⟩
      have HZ7 : Hid (Arr W7 30 L (row4 (fun _ => 0))) := Lib.hid (by rw [hW7, hL]; exact Arr.new w6 _ _)
      obtain ⟨W8, hW8⟩ : ∃ W8, W8 = W7.setRow L (row4 l).toArray := ⟨_, rfl⟩
      have HA8 : Hid (Arr W8 30 L (row4 l)) := Lib.hid (by rw [hW8]; exact setRow_heap W7 L _ (row4 l).toArray _ _ HZ7.out)
      have hb8 : Below w6.heap.size w6 W8 := by
        rw [hW8]
        exact (show Below w6.heap.size w6 W7 by rw [hW7]; exact (Below.refl _ _).alloc (Nat.le_refl _) _).trans ((Mod.setRow W7 L (row4 l).toArray).below (by have := HZ7.out.lt; omega) (fun k hk => by rw [hk]; omega))
      have HB8 := Lib.hid (HB6.out.trans (hb8.mono (by have := HB6.out.size; have := HE.out; omega)))
      have HQ8 : Hid (Rows2 W8 A1 s.rows s.cols F) := Lib.hid (HQ6.out.below hb8)
      have l0 := HA8.out.cell? 0
      have l1 := HA8.out.cell? 1
      have l2 := HA8.out.cell? 2
      have l3 := HA8.out.cell? 3
      rw [row4_lit] at l0 l1 l2 l3
      simp only [List.getElem?_cons_zero, List.getElem?_cons_succ] at l0 l1 l2 l3
      have HDR := Lib.hid (rdDrawn F B s.rows s.cols cap l (by omega) (by omega) (by omega) (by omega) HBK.out A1 #[.int .i64 (l 0 : Nat), .int .i64 (l 1 : Nat), .int .i64 (l 2 : Nat), .int .i64 (l 3 : Nat)] rfl W8 HQ8.out)
      have HL := Lib.hid hL
      have HW7 := Lib.hid hW7
      have HW8 := Lib.hid hW8
      clear hb6 hb8 HBX p0 p1 p2 p3 p4 hL hW7 hW8
      go_wp2_with (rw [← HL.out, ← HW7.out]; refine wpList_store_row rfl 30 (.tmp 13) (.tmp 67) rfl L (row4 l).toArray rfl rfl 30 _ HZ7.out info4 rfl (row4_one l) ?_; rw [← HW8.out])
      refine HDR.out.mono ?_
      rintro e w9 ⟨A2, C2, rfl, HQ9, hb9⟩
      have hpk : PicOk F B (l 0) (l 1) (l 2) (l 3) s.rows s.cols (l 0 + B * s.cols + l 2) (l 1 + B * s.rows + l 3) := by
        obtain ⟨b1, b2, b3, b4, b5⟩ := HBK.out
        have q0 := b5 0 (by omega)
        have q1 := b5 1 (by omega)
        have q2 := b5 2 (by omega)
        have q3 := b5 3 (by omega)
        exact ⟨b1, b2, by omega, by omega, by omega, by omega, rfl, rfl, by omega, by omega, by omega, (HFR.out 0 0 (by omega) (by omega)).1 rfl rfl, (HFR.out 0 1 (by omega) (by omega)).2.1 rfl rfl, (HFR.out (s.rows - 1) (s.cols - 1) (by omega) (by omega)).2.2 (by omega) (by omega)⟩
      have HPB := Lib.hid (dmPureBits F B (l 0) (l 1) (l 2) (l 3) s.rows s.cols (l 0 + B * s.cols + l 2) (l 1 + B * s.rows + l 3) C2 A2 w9 hpk HQ9.out.2.2)
      have HB9 := Lib.hid (HB8.out.trans (hb9.mono (by have := HB8.out.size; have := HE.out; omega)))
      have HQ10 : Hid (Rows2 w9 A1 s.rows s.cols F) := Lib.hid (HQ8.out.below hb9)
      clear hpk hb9 HDR l0 l1 l2 l3 HQ9
      go_wp2_with fail
      refine HPB.out.mono ?_
      rintro e w10 ⟨G, rfl, HQ11, hb10⟩
      have HB10 := Lib.hid (HB9.out.trans (hb10.mono (by have := HB9.out.size; have := HE.out; omega)))
      have HAL := Lib.hid (dmAlike s.rows s.cols s.rows cap F (some ⟨G, 0, none⟩) A1 (by omega) (by omega) w10 HQ11.out (HQ10.out.below hb10))
      clear hb10 HPB
      go_wp2_with fail
      refine HAL.out.mono ?_
      rintro e w11 ⟨rfl, hb11⟩
      have HB11 := Lib.hid (HB10.out.trans (hb11.mono (by have := HB10.out.size; have := HE.out; omega)))
      clear hb11 HAL
      go_wp2_with fail
      go_ret
      exact ⟨rfl, by rw [← HE.out]; exact HB11.out⟩
end Go.Proofs.Ytfnfikmijkeimaa
