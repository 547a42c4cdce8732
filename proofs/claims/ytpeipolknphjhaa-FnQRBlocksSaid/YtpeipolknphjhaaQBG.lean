/-
  DataBlock_GetDataBlocks, walked. No condition beyond the bounds that each theorem states.
-/
import Derived.Test.YtpeipolknphjhaaQBK
import Derived.RegionTactic
import Derived.ChangeAlike
import Derived.Outline
namespace Go.Proofs.Ytpeipolknphjhaa
open Go.RowKit Go.Qz Go.Qz.QW Go.Qz.QI
set_option linter.unusedVariables false

theorem Try.infoPDB : (Try.prog.info? 75).map (fun i => (i.zero, i.size, i.bytes)) = some (some (.pointer none), 1, 8) := by kernel_rfl
theorem Try.infoU8g : (Try.prog.info? 5).map (fun i => (i.zero, i.size, i.bytes)) = some (some (.int .u8 0), 1, 1) := by kernel_rfl
/-- Blocks in the first groups. -/
def cnt (g : List (Nat × Nat)) (k : Nat) : Nat := ((g.take k).map (·.1)).sum
theorem cnt_succ {g : List (Nat × Nat)} {k : Nat} (h : k < g.length) : cnt g (k + 1) = cnt g k + (g.getD k (0, 0)).1 := by
  unfold cnt
  rw [List.take_succ_eq_append_getElem h, List.map_append, List.sum_append, List.getD_eq_getElem?_getD, List.getElem?_eq_getElem h]
  simp
/-- What the groups say of the blocks. -/
structure Grp (g : List (Nat × Nat)) (s : Sh) : Prop where
  len : g.length ≤ 2
  tot : cnt g g.length = s.nb
  le : ∀ k, k < g.length → cnt g k + (g.getD k (0, 0)).1 ≤ s.nb
  ds : ∀ k i, k < g.length → i < (g.getD k (0, 0)).1 → s.ds (cnt g k + i) = (g.getD k (0, 0)).2
theorem grp_of {n l : Nat} (h1 : 1 ≤ n) (h2 : n ≤ 40) (hl : l < 4) : Grp (grOf n l) (shOf' n l) := by
  have hf := fine n l h1 h2 hl
  have hlg := hf.lg
  by_cases h0 : longOf n l = 0
  · have e : grOf n l = [(nbOf n l, shOf n l)] := by unfold grOf; rw [if_pos h0]
    rw [e]
    refine ⟨by simp, by simp [cnt, shOf'], fun k hk => ?_, fun k i hk hi => ?_⟩
    · obtain rfl : k = 0 := by simp at hk; omega
      simp [cnt, shOf']
    · obtain rfl : k = 0 := by simp at hk; omega
      simp [cnt] at hi ⊢
      refine Sh.ds_lo ?_
      show i < nbOf n l - longOf n l
      omega
  · have e : grOf n l = [(nbOf n l - longOf n l, shOf n l), (longOf n l, shOf n l + 1)] := by unfold grOf; rw [if_neg h0]
    rw [e]
    refine ⟨by simp, by simp [cnt, shOf']; omega, fun k hk => ?_, fun k i hk hi => ?_⟩
    · have : k = 0 ∨ k = 1 := by simp at hk; omega
      rcases this with rfl | rfl
      · simp [cnt, shOf']
      · simp [cnt, shOf']; omega
    · have : k = 0 ∨ k = 1 := by simp at hk; omega
      rcases this with rfl | rfl
      · simp [cnt] at hi ⊢
        exact Sh.ds_lo (s := shOf' n l) hi
      · simp [cnt] at hi ⊢
        exact Sh.ds_hi (s := shOf' n l) (by show nbOf n l - longOf n l ≤ _; omega)

def BlkPost (s : Sh) (raw : Nat → Nat) (w : World) (e : Ending) (w' : World) : Prop := ∃ R P C f, e = .returned (.tuple #[.slice (some ⟨R, 0, none⟩) s.nb s.nb, .nilIface]) ∧
  Hid (Blks w' R s.nb s P C f) ∧ Hid (Upto s raw f s.tot) ∧ w.heap.size ≤ R ∧ Below w.heap.size w w'
theorem BlkPost.mk {s : Sh} {raw : Nat → Nat} {w w' : World} {J R : Nat} {P C : Nat → Nat} {f : Nat → Nat → Nat} (h : J = s.nb) (hb : Blks w' R J s P C f) (hu : Hid (Upto s raw f s.tot)) (hR : w.heap.size ≤ R) (hB : Below w.heap.size w w') :
    BlkPost s raw w (.returned (.tuple #[.slice (some ⟨R, 0, none⟩) J J, .nilIface])) w' := by
  subst h
  exact ⟨R, P, C, f, rfl, Lib.hid hb, hu, hR, hB⟩

set_option maxRecDepth 100000 in
set_option maxHeartbeats 16000000 in
theorem getBlocks (n l m c p : Nat) (h1 : 1 ≤ n) (h2 : n ≤ 40) (hl : l < 4) (A : Option Addr) (raw : Nat → Nat) (hm : m = totOf n) (w : World) (hv : VerAt w p n) (hr : Rd w A m (fun j => .int .u8 (raw j : Nat))) :
    Calls Try.prog 45 #[.slice A m c, .pointer (some ⟨p, 0, none⟩), .int .i64 l] w (BlkPost (shOf' n l) raw w) := by
  have hG := grp_of h1 h2 hl
  have hO := shOf_ok h1 h2 hl
  have hT := shOf_tot h1 h2 hl
  obtain ⟨s0, hs0, hA, hB⟩ := hv
  obtain ⟨lv1, lv2, lv3⟩ := hB.level hl
  have a3 := hA.cell? 3
  have a2 := hA.cell? 2
  simp only [List.getElem?_cons_zero, List.getElem?_cons_succ] at a3 a2
  obtain ⟨s, hs⟩ : ∃ s, s = shOf' n l := ⟨_, rfl⟩
  obtain ⟨g, hg⟩ : ∃ g, g = grOf n l := ⟨_, rfl⟩
  have hec : ecOf n l = s.ec := by rw [hs]; rfl
  rw [← hs] at hG hO hT ⊢
  rw [← hg] at hG lv2 lv3
  rw [hec] at lv1
  rw [← hT] at a3 hm
  have hl2 : Hid (Calls Try.prog 62 #[.pointer (some ⟨p, 0, none⟩), .int .i64 l] w fun e w' => e = .returned (.pointer (some ⟨s0 + 5, 2 * atLv l, none⟩)) ∧ w = w') := Lib.hid (verLevel p (s0 + 5) l hl w a2)
  have hBl := hB.ec.lt
  have hgl := (hB.gr (atLv l) (lv_at l hl).2).lt
  obtain ⟨B, hBe⟩ : ∃ B, B = s0 + 5 := ⟨_, rfl⟩
  obtain ⟨o, hoe⟩ : ∃ o, o = 2 * atLv l := ⟨_, rfl⟩
  obtain ⟨gb, hgb⟩ : ∃ gb, gb = s0 + 1 + atLv l := ⟨_, rfl⟩
  rw [← hBe, ← hoe] at lv1 lv2 hl2
  rw [← hgb] at lv2 lv3 hgl
  rw [← hBe] at hBl
  have htot := Sh.tot_le hO
  have htot0 : 0 < s.tot := by
    have h3 : 1 * 1 ≤ s.ec * s.nb := Nat.mul_le_mul hO.ec0 hO.nb0
    unfold Sh.tot; omega
  obtain ⟨rb, ro, rfl, hrb, hrc⟩ := hr (by omega)
  obtain ⟨gn, hgn⟩ : ∃ gn, gn = g.length := ⟨_, rfl⟩
  rw [← hgn] at lv2 lv3
  have hgn2 : gn ≤ 2 := by rw [hgn]; exact hG.len
  have HG := Lib.hid hG
  have HO := Lib.hid hO
  have HRC := Lib.hid hrc
  have HLV := Lib.hid lv3
  have HEC := Lib.hid lv1
  have HGN := Lib.hid hgn
  have HA3 := Lib.hid a3
  have HGB := Lib.hid lv2
  have hmt : m ≤ 13000 := by omega
  have hmt0 : 0 < m := by omega
  have HMT := Lib.hid hm
  obtain ⟨nb, hnb⟩ : ∃ nb, nb = s.nb := ⟨_, rfl⟩
  have hnb0 : 0 < nb := by rw [hnb]; exact hO.nb0
  have hnb1 : nb ≤ 81 := by rw [hnb]; exact hO.nb1
  have HNB := Lib.hid hnb
  have hz : Hid (cnt g 0 = 0) := Lib.hid (by simp [cnt])
  rw [← hm] at HA3
  clear hG hO hT hA hB lv1 lv2 lv3 a3 a2 hs hg hec hBe hoe hgb htot htot0 hr hrc hgn hm hs0 h1 h2 hl hnb
  go_enter Try.func45, Try.ntmps45
  go_wp2_with fail
  refine (verTotal p m w HA3.out).mono ?_
  rintro e w1 ⟨rfl, rfl⟩
  go_wp2_with fail
  refine hl2.out.mono ?_
  rintro e w1 ⟨rfl, rfl⟩
  go_wp2_with fail
  refine (ecsBlocks B o gb gn gn w HGB.out).mono ?_
  rintro e w1 ⟨rfl, rfl⟩
  go_wp2_with fail
  go_loopw [9, 45] (fun t i wr => ∃ k T : Nat, k ≤ gn ∧ i = .int .i64 k ∧ t = .int .i64 T ∧ T ≤ nb ∧ Hid (cnt g k = T) ∧ Below w.heap.size w wr) (fun _ i _ => gn - (intOf i).toNat)
  case atStart => exact ⟨0, 0, by omega, rfl, rfl, by omega, hz, Below.refl _ _⟩
  case round =>
    obtain ⟨k, T, hk, rfl, rfl, hTl, HK, hbel⟩ := hrel
    clear hz
    by_cases hlt : k < gn
    · obtain ⟨c0, c1⟩ := HLV.out k hlt
      have d0 := (hbel.cell (p := ⟨gb, k * 2, none⟩) hgl).trans c0
      have d1 := (hbel.cell (p := ⟨gb, k * 2 + 1, none⟩) hgl).trans c1
      have hle := HG.out.le k (by have := HGN.out; omega)
      rw [HK.out, ← HNB.out] at hle
      have hcs := cnt_succ (g := g) (k := k) (by have := HGN.out; omega)
      rw [HK.out] at hcs
      obtain ⟨x, hx⟩ : ∃ x, x = (g.getD k (0, 0)).1 := ⟨_, rfl⟩
      obtain ⟨y, hy⟩ : ∃ y, y = (g.getD k (0, 0)).2 := ⟨_, rfl⟩
      rw [← hx] at d0 hle hcs
      rw [← hy] at d1
      have HCS := Lib.hid hcs
      have hk0 : (0 : Int) ≤ (k : Int) := by omega
      have hk1 : (k : Int) < (gn : Int) := by omega
      have HBEL := Lib.hid hbel
      clear hx hy HK hbel c0 c1 hcs
      go_wp2_with fail
      refine (ecbCount (x : Int) (y : Int) _).mono ?_
      rintro e w3 ⟨rfl, hb3⟩
      have HB3 := Lib.hid ((HBEL.out.alloc HBEL.out.size (.cells #[.int .i64 x, .int .i64 y] 100)).trans (hb3.mono (by have := HBEL.out.size; simp; omega)))
      clear hb3 d0 d1
      go_wp2_with fail
      go_roundw
      case rel => exact ⟨k + 1, T + x, by omega, by go_num, by go_num, by omega, HCS, HB3.out⟩
      case measure => simp [intOf]; omega
    · obtain rfl : k = gn := by omega
      obtain rfl : T = nb := by rw [HNB.out, ← HG.out.tot, ← HGN.out]; exact HK.out.symm
      have hmk := fun W => run_make1 (P := Try.prog) 72 75 (.pointer none) 8 Try.underlying72 Try.infoPDB rfl (by decide) T (by omega) .i64 .i64 T rfl W
      have HB0 := Lib.hid hbel
      have HZ : Hid (Blks (wr.alloc (.cells (zeros T (.pointer none)) 75)) wr.heap.size 0 s (fun _ => 0) (fun _ => 0) (fun _ _ => 0)) := Lib.hid (by
        have := Blks.zero (w := wr) s (fun _ => 0) (fun _ => 0) (fun _ _ => 0)
        rw [← HNB.out] at this; exact this)
      have HB1 := Lib.hid (HB0.out.alloc HB0.out.size (.cells (zeros T (.pointer none)) 75))
      have hk1 : ((k : Int) < (k : Int)) = False := by simp
      clear HK hbel
      go_wp2_with fail
      obtain ⟨W0, hW0⟩ : ∃ W0, W0 = wr.alloc (.cells (zeros T (.pointer none)) 75) := ⟨_, rfl⟩
      obtain ⟨R, hR⟩ : ∃ R, R = wr.heap.size := ⟨_, rfl⟩
      have HR0 : Hid (w.heap.size ≤ R) := Lib.hid (by rw [hR]; exact HB0.out.size)
      rw [← hW0] at HB1 HZ ⊢
      rw [← hR] at HZ ⊢
      clear hW0 hR HB0 hmk hk1
      have hz : Hid (cnt g 0 = 0) := Lib.hid (by simp [cnt])
      go_loopw [14, 58] (fun q i wr => ∃ (k2 Q : Nat) (P C : Nat → Nat), k2 ≤ k ∧ i = .int .i64 k2 ∧ q = .int .i64 Q ∧ Hid (cnt g k2 = Q) ∧ Hid (Blks wr R Q s P C (fun _ _ => 0)) ∧ Hid (Below w.heap.size w wr)) (fun _ i _ => k - (intOf i).toNat)
      case atStart => exact ⟨0, 0, _, _, by omega, rfl, rfl, hz, HZ, HB1⟩
      case round =>
        obtain ⟨k2, Q, P, C, hk2, rfl, rfl, HK2, HBK, HBE⟩ := hrel
        clear hz HZ HB1
        obtain ⟨wo, hwo⟩ : ∃ wo, wo = wr := ⟨_, rfl⟩
        rw [← hwo] at HBK HBE ⊢
        clear hwo
        by_cases hlt : k2 < k
        · obtain ⟨c0, c1⟩ := HLV.out k2 hlt
          have d0 := (HBE.out.cell (p := ⟨gb, k2 * 2, none⟩) hgl).trans c0
          have d1 := (HBE.out.cell (p := ⟨gb, k2 * 2 + 1, none⟩) hgl).trans c1
          have hle := HG.out.le k2 (by have := HGN.out; omega)
          have hcs := cnt_succ (g := g) (k := k2) (by have := HGN.out; omega)
          have hds := HG.out.ds k2
          rw [HK2.out] at hle hcs hds
          rw [← HNB.out] at hle
          obtain ⟨x, hx⟩ : ∃ x, x = (g.getD k2 (0, 0)).1 := ⟨_, rfl⟩
          obtain ⟨y, hy⟩ : ∃ y, y = (g.getD k2 (0, 0)).2 := ⟨_, rfl⟩
          rw [← hx] at d0 hle hcs hds
          rw [← hy] at d1 hds
          have HCS := Lib.hid hcs
          have HDS : Hid (∀ i, i < x → s.ds (Q + i) = y) := Lib.hid (fun i hi => hds i (by have := HGN.out; omega) hi)
          have hk0 : (0 : Int) ≤ (k2 : Int) := by omega
          have hk1 : (k2 : Int) < (k : Int) := by omega
          clear hx hy HK2 c0 c1 hcs hds
          go_wp2_with fail
          have HAr0 := Lib.hid (Arr.new wo 100 [.int .i64 x, .int .i64 y])
          have HBK0 := Lib.hid (HBK.out.below ((Below.refl _ _).alloc (Nat.le_refl _) (.cells #[.int .i64 x, .int .i64 y] 100)))
          have HBE0 := Lib.hid (HBE.out.alloc HBE.out.size (.cells #[.int .i64 x, .int .i64 y] 100))
          have HRG : Hid (R < wo.heap.size) := Lib.hid HBK.out.hd.lt
          obtain ⟨W2, hW2⟩ : ∃ W2, W2 = wo.alloc (.cells #[.int .i64 x, .int .i64 y] 100) := ⟨_, rfl⟩
          obtain ⟨G, hGe⟩ : ∃ G, G = wo.heap.size := ⟨_, rfl⟩
          have HAr1 : Hid (Arr W2 100 G [.int .i64 x, .int .i64 y]) := Lib.hid (by rw [hW2, hGe]; exact HAr0.out)
          rw [← hW2] at HBK0 HBE0 ⊢
          rw [← hGe] at HRG ⊢
          clear HAr0 HBK HBE d0 d1 hW2 hGe
          go_loopw [14, 17] (fun q i wr => ∃ (j : Nat) (P C : Nat → Nat), j ≤ x ∧ i = .int .i64 j ∧ q = .int .i64 (Q + j : Nat) ∧ Hid (Blks wr R (Q + j) s P C (fun _ _ => 0)) ∧ Hid (Arr wr 100 G [.int .i64 x, .int .i64 y]) ∧ Hid (Below w.heap.size w wr)) (fun _ i _ => x - (intOf i).toNat)
          case atStart => exact ⟨0, P, C, by omega, rfl, rfl, HBK0, HAr1, HBE0⟩
          case round =>
            obtain ⟨j, P2, C2, hj, rfl, rfl, HBK, HAr, HBE⟩ := hrel
            clear HBK0 HAr1 HBE0
            obtain ⟨wi, hwi⟩ : ∃ wi, wi = wr := ⟨_, rfl⟩
            rw [← hwi] at HBK HAr HBE ⊢
            clear hwi
            have e0 := HAr.out.cell? 0
            have e1 := HAr.out.cell? 1
            simp only [List.getElem?_cons_zero, List.getElem?_cons_succ] at e0 e1
            by_cases hjl : j < x
            · have hj1 : (j : Int) < (x : Int) := by omega
              go_wp2_with fail
              refine (ecbCount (x : Int) (y : Int) _).mono ?_
              rintro e w3 ⟨rfl, hb3⟩
              have HBK3 := Lib.hid (HBK.out.below hb3)
              have HAr3 := Lib.hid (HAr.out.below hb3 HAr.out.lt)
              have HBE3 := Lib.hid (HBE.out.trans (hb3.mono HBE.out.size))
              clear hb3 HBK HAr HBE e0 e1
              have e0 := HAr3.out.cell? 0
              have e1 := HAr3.out.cell? 1
              simp only [List.getElem?_cons_zero, List.getElem?_cons_succ] at e0 e1
              go_wp2_with fail
              refine (ecbData (x : Int) (y : Int) _).mono ?_
              rintro e w4 ⟨rfl, hb4⟩
              have HBK4 := Lib.hid (HBK3.out.below hb4)
              have HAr4 := Lib.hid (HAr3.out.below hb4 HAr3.out.lt)
              have HBE4 := Lib.hid (HBE3.out.trans (hb4.mono HBE3.out.size))
              clear hb4 HBK3 HAr3 HBE3 e0 e1
              go_wp2_with fail
              refine (ecsWords B o (s.ec : Int) w4 ((HBE4.out.cell (p := ⟨B, o, none⟩) hBl).trans HEC.out)).mono ?_
              rintro e w5 ⟨rfl, rfl⟩
              obtain ⟨q, hq⟩ : ∃ q, q = Q + j := ⟨_, rfl⟩
              have hyd : s.ds q = y := by rw [hq]; exact HDS.out j hjl
              have hyl : s.len q = y + s.ec := by unfold Sh.len; rw [hyd]
              have hql : q < T := by omega
              have hds1 := Sh.ds_le s q
              have hsh := HO.out.sh1
              have hec1 := HO.out.ec1
              obtain ⟨L, hL⟩ : ∃ L, L = y + s.ec := ⟨_, rfl⟩
              rw [← hL] at hyl
              have eL : (s.ec : Int) + (y : Int) = (L : Int) := by omega
              have hLl : L ≤ 200 := by omega
              have hmk := fun W => run_make1 (P := Try.prog) 41 5 (.int .u8 0) 1 Try.underlying41 Try.infoU8g rfl (by decide) L (by omega) .i64 .i64 L rfl W
              have hq0 : (0 : Int) ≤ (q : Int) := by omega
              have eq1 : (Q : Int) + (j : Int) = (q : Int) := by omega
              have HYD := Lib.hid hyd
              have HYL := Lib.hid hyl
              have HQ := Lib.hid hq
              clear hyd hyl hq hds1 hL
              go_wp2_with fail
              refine (blkNew _ (.int .i64 0) _ _ _ _).mono ?_
              rintro e w6 ⟨rfl, rfl⟩
              have HPU := HBK4.out.push HBK4.out.hd.lt
              rw [← HQ.out] at HPU
              rw [HYL.out, HYD.out] at HPU
              have hbb : Below w4.heap.size w4 ((w4.alloc (.cells (zeros L (.int .u8 0)) 5)).alloc (.cells #[.int .i64 (y : Nat), .slice (some ⟨w4.heap.size, 0, none⟩) L L] 103)) := ((Below.refl _ _).alloc (Nat.le_refl _) _).alloc (by simp) _
              have hck : w4.cell? ⟨R, q, none⟩ = some (.pointer none) := by rw [HBK4.out.hd.cell?, ptrs_get _ _ _ _ (by rw [← HNB.out]; exact hql), if_neg (by have := HQ.out; omega)]
              have hRl := HBK4.out.hd.lt
              obtain ⟨W6, hW6⟩ : ∃ W6, W6 = (w4.alloc (.cells (zeros L (.int .u8 0)) 5)).alloc (.cells #[.int .i64 (y : Nat), .slice (some ⟨w4.heap.size, 0, none⟩) L L] 103) := ⟨_, rfl⟩
              rw [← hW6] at HPU hbb ⊢
              have hck2 : W6.cell? ⟨R, q, none⟩ = some (.pointer none) := (hbb.cell (p := ⟨R, q, none⟩) hRl).trans hck
              have hfk2 : W6.frozen? ⟨R, q, none⟩ = false := (hbb.frozen (p := ⟨R, q, none⟩) hRl).trans (HBK4.out.hd.free q)
              have HBE6 := Lib.hid (HBE4.out.trans (hbb.mono HBE4.out.size))
              have HAr6 := Lib.hid ((HAr4.out.below hbb HAr4.out.lt).mod (Mod.set1 W6 R q (.pointer (some ⟨w4.heap.size + 1, 0, none⟩))) (by have := HRG.out; omega))
              have HBE7 := Lib.hid (HBE6.out.setCell (p := ⟨R, q, none⟩) HR0.out (.pointer (some ⟨w4.heap.size + 1, 0, none⟩)))
              have HP := Lib.hid HPU
              have hq1 : (q : Int) < (T : Int) := by omega
              clear HPU hbb hck hRl hW6 hmk
              go_wp2_with fail
              go_roundw
              case rel => exact ⟨j + 1, _, _, by omega, by go_num, by rw [← Nat.add_assoc, ← HQ.out]; go_num, by rw [← Nat.add_assoc, ← HQ.out]; exact HP, HAr6, HBE7⟩
              case measure => simp [intOf]; omega
            · have hj1 : ((j : Int) < (x : Int)) = False := by simp; omega
              obtain rfl : j = x := by omega
              go_wp2_with fail
              refine (ecbCount (j : Int) (y : Int) _).mono ?_
              rintro e w3 ⟨rfl, hb3⟩
              have HBK3 := Lib.hid (HBK.out.below hb3)
              have HBE3 := Lib.hid (HBE.out.trans (hb3.mono HBE.out.size))
              clear hb3 HBK HAr HBE
              go_wp2_with fail
              go_roundw
              case rel => exact ⟨k2 + 1, Q + j, P2, C2, by omega, by go_num, rfl, HCS, HBK3, HBE3⟩
              case measure => simp [intOf]; omega
        · obtain rfl : k2 = k := by omega
          obtain rfl : Q = T := by rw [← HK2.out, HGN.out, HG.out.tot]; exact HNB.out.symm
          have hk1 : ((k2 : Int) < (k2 : Int)) = False := by simp
          have c0 := HBK.out.head 0 hnb0 (by rw [← HNB.out]; exact Nat.le_refl _)
          have c1 := HBK.out.words 0 hnb0
          obtain ⟨a, ha⟩ : ∃ a, a = s.len 0 := ⟨_, rfl⟩
          rw [← ha] at c1
          have hst : 0 < s.st := by have := HO.out.lg1; unfold Sh.st; omega
          have ha2 : a = s.sh + s.ec := by rw [ha]; unfold Sh.len; rw [Sh.ds_lo hst]
          obtain ⟨N1, hN1⟩ : ∃ N1, N1 = Q - 1 := ⟨_, rfl⟩
          have eN : (Q : Int) - 1 = (N1 : Int) := by omega
          have HA2 := Lib.hid ha2
          have hn0 : (0 : Int) < (Q : Int) := by omega
          have hstn : s.st ≤ Q := by rw [HNB.out]; unfold Sh.st; omega
          obtain ⟨st, hste⟩ : ∃ st, st = s.st := ⟨_, rfl⟩
          rw [← hste] at hst hstn
          have HST := Lib.hid hste
          have HST0 := Lib.hid hst
          have ha130 : a ≤ 200 := by have := HO.out.sh1; have := HO.out.ec1; omega
          have HAL := Lib.hid ha
          have HN1 := Lib.hid (show N1 < Q ∧ st ≤ N1 + 1 by omega)
          clear HK2 ha ha2 hN1 hste hstn
          go_wp2_with fail
          go_loop [21] (fun x => ∃ X : Nat, x = .int .i64 X ∧ Hid (X < Q ∧ st ≤ X + 1)) (fun x => (intOf x).toNat)
          case atStart => exact ⟨N1, rfl, HN1⟩
          case round =>
            obtain ⟨X, rfl, HX⟩ := hrel
            clear HN1 eN
            obtain ⟨hX1, hX2⟩ := HX.out
            have hX0 : (0 : Int) ≤ (X : Int) := by omega
            have d0 := HBK.out.head X hX1 (by rw [← HNB.out]; exact Nat.le_refl _)
            have d1 := HBK.out.words X hX1
            have hX3 : (X : Int) < (Q : Int) := by omega
            by_cases hlo : st ≤ X
            · have hlx : s.len X = a + 1 := by rw [HA2.out]; unfold Sh.len; rw [Sh.ds_hi (by rw [← HST.out]; exact hlo)]; omega
              obtain ⟨lx, hlxe⟩ : ∃ lx, lx = s.len X := ⟨_, rfl⟩
              rw [← hlxe] at d1 hlx
              have hne : ((lx : Int) == (a : Int)) = false := by simp; omega
              obtain ⟨X1, hX1e⟩ : ∃ X1, X1 = X - 1 := ⟨_, rfl⟩
              have eX : (X : Int) - 1 = (X1 : Int) := by have := HST0.out; omega
              have HX1 : Hid (X1 < Q ∧ st ≤ X1 + 1) := Lib.hid (by have := HST0.out; omega)
              have HME : Hid (X1 < X) := Lib.hid (by have := HST0.out; omega)
              clear hlx hlxe hX1e hlo hX2
              go_wp2_with fail
              go_round
              case rel => exact ⟨X1, rfl, HX1⟩
              case measure => have := HME.out; simp [intOf]; omega
            · have hlx : s.len X = a := by rw [HA2.out]; unfold Sh.len; rw [Sh.ds_lo (by rw [← HST.out]; omega)]
              rw [hlx] at d1
              have eX : (X : Int) + 1 = (st : Int) := by omega
              have hee : ((a : Int) == (a : Int)) = true := by simp
              clear hlx hlo hX2
              go_wp2_with fail
              refine (ecsWords B o (s.ec : Int) _ ((HBE.out.cell (p := ⟨B, o, none⟩) hBl).trans HEC.out)).mono ?_
              rintro e w5 ⟨rfl, rfl⟩
              obtain ⟨sh, hshe⟩ : ∃ sh, sh = s.sh := ⟨_, rfl⟩
              have eA : (a : Int) - (s.ec : Int) = (sh : Int) := by have := HA2.out; omega
              have HSH := Lib.hid hshe
              have HT2 : Hid (sh ≤ 123 ∧ s.ec ≤ 30 ∧ sh * Q + s.lg + s.ec * Q = m ∧ st + s.lg = Q) := Lib.hid ⟨by rw [hshe]; exact HO.out.sh1, HO.out.ec1, by rw [HMT.out, hshe, HNB.out]; rfl, by have := HO.out.lg1; rw [HST.out, HNB.out]; unfold Sh.st; omega⟩
              have hsh123 := HT2.out.1
              clear hshe c0 c1 d0 d1
              go_wp2_with fail
              clear eA eX hee
              have HU0 := Lib.hid (Upto.zero s raw (fun _ _ => 0))
              go_loopw [24, 25] (fun off i wr => ∃ (I F : Nat) (f : Nat → Nat → Nat), I ≤ sh ∧ i = .int .i64 I ∧ off = .int .i64 F ∧ Hid (F = I * Q) ∧ Hid (Blks wr R Q s P C f) ∧ Hid (Upto s raw f F) ∧ Hid (Below w.heap.size w wr)) (fun _ i _ => sh - (intOf i).toNat)
              case atStart => exact ⟨0, 0, _, by omega, rfl, rfl, Lib.hid (by omega), HBK, HU0, HBE⟩
              case round =>
                obtain ⟨I, F, f, hI, rfl, rfl, HF, HBK, HU, HBE⟩ := hrel
                clear HU0
                obtain ⟨wo, hwo⟩ : ∃ wo, wo = wr := ⟨_, rfl⟩
                rw [← hwo] at HBK HBE ⊢
                clear hwo
                by_cases hIl : I < sh
                · have hI1 : (I : Int) < (sh : Int) := by omega
                  have HI0 : Hid (F = I * Q + 0) := Lib.hid (by rw [HF.out]; omega)
                  have HF2 := HF
                  clear HF
                  go_wp2_with fail
                  go_loopw [24, 26] (fun off i wr => ∃ (J F : Nat) (f : Nat → Nat → Nat), J ≤ Q ∧ i = .int .i64 J ∧ off = .int .i64 F ∧ Hid (F = I * Q + J) ∧ Hid (Blks wr R Q s P C f) ∧ Hid (Upto s raw f F) ∧ Hid (Below w.heap.size w wr)) (fun _ i _ => Q - (intOf i).toNat)
                  case atStart => exact ⟨0, F, f, by omega, rfl, rfl, HI0, HBK, HU, HBE⟩
                  case round =>
                    obtain ⟨J, F3, f3, hJ, rfl, rfl, HF3, HBK3, HU3, HBE3⟩ := hrel
                    clear HI0 HBK HU HBE HF2
                    obtain ⟨wi, hwi⟩ : ∃ wi, wi = wr := ⟨_, rfl⟩
                    rw [← hwi] at HBK3 HBE3 ⊢
                    clear hwi
                    by_cases hJl : J < Q
                    · have hJ1 : (J : Int) < (Q : Int) := by omega
                      have hat : s.at_ J I = F3 := by rw [HF3.out, HNB.out]; exact Sh.at_low (by rw [← HSH.out]; exact hIl)
                      have hJn : J < s.nb := by rw [← HNB.out]; exact hJl
                      have hil : I < s.len J := by have := Sh.ds_le s J; have := HSH.out; unfold Sh.len; omega
                      have hFm : F3 < m := by rw [HMT.out, ← hat]; exact Sh.at_lt HO.out hJn hil
                      have hU4 := Upto.put_ HO.out HU3.out hJn hil hat
                      have hB4 := HBK3.out.set_ J I (raw F3) hJl
                      have c0 := HBK3.out.head J hJl (by rw [← HNB.out]; exact Nat.le_refl _)
                      have c1 := HBK3.out.words J hJl
                      have c2 := HBK3.out.cell J I hJl hil
                      have c3 := (HBK3.out.by_ J hJl).free I
                      have cr := (HBE3.out.cell (p := ⟨rb, ro + F3, none⟩) hrb).trans (HRC.out F3 hFm)
                      obtain ⟨v, hv⟩ : ∃ v, v = raw F3 := ⟨_, rfl⟩
                      rw [← hv] at cr hU4 hB4
                      obtain ⟨l, hle⟩ : ∃ l, l = s.len J := ⟨_, rfl⟩
                      rw [← hle] at c1 hil
                      obtain ⟨x0, hx0⟩ : ∃ x0 : Nat, x0 = f3 J I := ⟨_, rfl⟩
                      rw [← hx0] at c2
                      have hil2 : (I : Int) < (l : Int) := by omega
                      have hFm2 : (F3 : Int) < (m : Int) := by omega
                      have hF0 : (0 : Int) ≤ (F3 : Int) := by omega
                      have hI0 : (0 : Int) ≤ (I : Int) := by omega
                      have hJ0 : (0 : Int) ≤ (J : Int) := by omega
                      have HB4 := Lib.hid hB4
                      have HU4 := Lib.hid hU4
                      have HBE4 := Lib.hid (HBE3.out.setCell (p := ⟨C J, I, none⟩) (by have := HBK3.out.lo J hJl; have := HR0.out; dsimp only; omega) (.int .u8 (v : Nat)))
                      have HF4 : Hid (F3 + 1 = I * Q + (J + 1)) := Lib.hid (by rw [HF3.out]; omega)
                      clear hat hU4 hB4 hv hle hx0 HBK3 HBE3 HU3 HF3 hJn
                      go_wp2_with fail
                      go_region
                      go_wp2_with fail
                      go_roundw
                      case rel => exact ⟨J + 1, F3 + 1, _, by omega, by go_num, by go_num, HF4, Lib.hid (HB4.out.mod (Mod.drewN (Mod.refl (S := fun _ => False) _) 1) (fun _ _ h => h)), HU4, Lib.hid (below_drewN HBE4.out 1)⟩
                      case measure => simp [intOf]; omega
                    · obtain rfl : J = Q := by omega
                      have hJ1 : ((J : Int) < (J : Int)) = False := by simp
                      have HF4 : Hid (F3 = (I + 1) * J) := Lib.hid (by rw [HF3.out, Nat.add_mul]; omega)
                      go_wp2_with fail
                      go_roundw
                      case rel => exact ⟨I + 1, F3, f3, by omega, by go_num, rfl, HF4, HBK3, HU3, HBE3⟩
                      case measure => simp [intOf]; omega
                · obtain rfl : I = sh := by omega
                  have hI1 : ((I : Int) < (I : Int)) = False := by simp
                  go_wp2_with fail
                  obtain ⟨wo2, hwo2⟩ : ∃ wo2, wo2 = wo := ⟨_, rfl⟩
                  rw [← hwo2] at HBK HBE ⊢
                  clear hwo2
                  have HFs : Hid (F = I * Q + (st - st)) := Lib.hid (by rw [HF.out]; omega)
                  go_loopw [24, 27] (fun off i wr => ∃ (J F : Nat) (f : Nat → Nat → Nat), J ≤ Q ∧ st ≤ J ∧ i = .int .i64 J ∧ off = .int .i64 F ∧ Hid (F = I * Q + (J - st)) ∧ Hid (Blks wr R Q s P C f) ∧ Hid (Upto s raw f F) ∧ Hid (Below w.heap.size w wr)) (fun _ i _ => Q - (intOf i).toNat)
                  case atStart => exact ⟨st, F, f, by have := HT2.out; omega, Nat.le_refl _, rfl, rfl, HFs, HBK, HU, HBE⟩
                  case round =>
                    obtain ⟨J, F3, f3, hJ, hJs, rfl, rfl, HF3, HBK3, HU3, HBE3⟩ := hrel
                    clear HFs HBK HU HBE HF
                    obtain ⟨wi, hwi⟩ : ∃ wi, wi = wr := ⟨_, rfl⟩
                    rw [← hwi] at HBK3 HBE3 ⊢
                    clear hwi
                    by_cases hJl : J < Q
                    · have hJ1 : (J : Int) < (Q : Int) := by omega
                      have hat : s.at_ J I = F3 := by
                        have h5 := Sh.at_mid (s := s) (j := J) (by rw [← HST.out]; exact hJs)
                        rw [← HSH.out, ← HST.out, ← HNB.out] at h5
                        rw [h5, HF3.out]
                      have hJn : J < s.nb := by rw [← HNB.out]; exact hJl
                      have hil : I < s.len J := by have := Sh.ds_hi (s := s) (j := J) (by rw [← HST.out]; exact hJs); have := HSH.out; unfold Sh.len; omega
                      have hFm : F3 < m := by rw [HMT.out, ← hat]; exact Sh.at_lt HO.out hJn hil
                      have hU4 := Upto.put_ HO.out HU3.out hJn hil hat
                      have hB4 := HBK3.out.set_ J I (raw F3) hJl
                      have c0 := HBK3.out.head J hJl (by rw [← HNB.out]; exact Nat.le_refl _)
                      have c1 := HBK3.out.words J hJl
                      have c2 := HBK3.out.cell J I hJl hil
                      have c3 := (HBK3.out.by_ J hJl).free I
                      have cr := (HBE3.out.cell (p := ⟨rb, ro + F3, none⟩) hrb).trans (HRC.out F3 hFm)
                      obtain ⟨v, hv⟩ : ∃ v, v = raw F3 := ⟨_, rfl⟩
                      rw [← hv] at cr hU4 hB4
                      obtain ⟨l, hle⟩ : ∃ l, l = s.len J := ⟨_, rfl⟩
                      rw [← hle] at c1 hil
                      obtain ⟨x0, hx0⟩ : ∃ x0 : Nat, x0 = f3 J I := ⟨_, rfl⟩
                      rw [← hx0] at c2
                      have hil2 : (I : Int) < (l : Int) := by omega
                      have hFm2 : (F3 : Int) < (m : Int) := by omega
                      have hF0 : (0 : Int) ≤ (F3 : Int) := by omega
                      have hI0 : (0 : Int) ≤ (I : Int) := by omega
                      have hJ0 : (0 : Int) ≤ (J : Int) := by omega
                      have HB4 := Lib.hid hB4
                      have HU4 := Lib.hid hU4
                      have HBE4 := Lib.hid (HBE3.out.setCell (p := ⟨C J, I, none⟩) (by have := HBK3.out.lo J hJl; have := HR0.out; dsimp only; omega) (.int .u8 (v : Nat)))
                      have HF4 : Hid (F3 + 1 = I * Q + (J + 1 - st)) := Lib.hid (by rw [HF3.out]; omega)
                      clear hat hU4 hB4 hv hle hx0 HBK3 HBE3 HU3 HF3 hJn
                      go_wp2_with fail
                      go_region
                      go_wp2_with fail
                      go_roundw
                      case rel => exact ⟨J + 1, F3 + 1, _, by omega, by omega, by go_num, by go_num, HF4, Lib.hid (HB4.out.mod (Mod.drewN (Mod.refl (S := fun _ => False) _) 1) (fun _ _ h => h)), HU4, Lib.hid (below_drewN HBE4.out 1)⟩
                      case measure => simp [intOf]; omega
                    · obtain rfl : J = Q := by omega
                      have hJ1 : ((J : Int) < (J : Int)) = False := by simp
                      have c0 := HBK3.out.head 0 hnb0 (by rw [← HNB.out]; exact Nat.le_refl _)
                      have c1 := HBK3.out.words 0 hnb0
                      rw [← HAL.out] at c1
                      have HF5 : Hid (F3 = I * J + s.lg + (I - I) * J) := Lib.hid (by rw [HF3.out, Nat.sub_self, Nat.zero_mul]; have := HT2.out; omega)
                      have HIA : Hid (a = I + s.ec) := Lib.hid (by rw [HA2.out, HSH.out])
                      go_wp2_with fail
                      clear c0 c1 hJ1 hI1
                      go_loopw [24, 29] (fun off i wr => ∃ (K F : Nat) (f : Nat → Nat → Nat), I ≤ K ∧ K ≤ a ∧ i = .int .i64 K ∧ off = .int .i64 F ∧ Hid (F = I * J + s.lg + (K - I) * J) ∧ Hid (Blks wr R J s P C f) ∧ Hid (Upto s raw f F) ∧ Hid (Below w.heap.size w wr)) (fun _ i _ => a - (intOf i).toNat)
                      case atStart => exact ⟨I, F3, f3, by omega, by have := HIA.out; omega, rfl, rfl, HF5, HBK3, HU3, HBE3⟩
                      case round =>
                        obtain ⟨K, F, f, hK0, hK, rfl, rfl, HF, HBK, HU, HBE⟩ := hrel
                        clear HF5 HBK3 HU3 HBE3 HF3
                        obtain ⟨wo, hwo⟩ : ∃ wo, wo = wr := ⟨_, rfl⟩
                        rw [← hwo] at HBK HBE ⊢
                        clear hwo
                        by_cases hKl : K < a
                        · have hK1 : (K : Int) < (a : Int) := by omega
                          have HI0 : Hid (F = I * J + s.lg + (K - I) * J + 0) := Lib.hid (by rw [HF.out]; omega)
                          clear HF
                          go_wp2_with fail
                          go_loopw [24, 30] (fun off i wr => ∃ (L F : Nat) (f : Nat → Nat → Nat), L ≤ J ∧ i = .int .i64 L ∧ off = .int .i64 F ∧ Hid (F = I * J + s.lg + (K - I) * J + L) ∧ Hid (Blks wr R J s P C f) ∧ Hid (Upto s raw f F) ∧ Hid (Below w.heap.size w wr)) (fun _ i _ => J - (intOf i).toNat)
                          case atStart => exact ⟨0, F, f, by omega, rfl, rfl, HI0, HBK, HU, HBE⟩
                          case round =>
                            obtain ⟨L, F3, f3, hL, rfl, rfl, HF3, HBK3, HU3, HBE3⟩ := hrel
                            clear HI0 HBK HU HBE
                            obtain ⟨wi, hwi⟩ : ∃ wi, wi = wr := ⟨_, rfl⟩
                            rw [← hwi] at HBK3 HBE3 ⊢
                            clear hwi
                            by_cases hLl : L < J
                            · have hL1 : (L : Int) < (J : Int) := by omega
                              obtain ⟨Z, hZ⟩ : ∃ Z, Z = s.ds L + (K - I) := ⟨_, rfl⟩
                              have hat : s.at_ L Z = F3 := by
                                rw [hZ, Sh.at_high, ← HSH.out, ← HNB.out, HF3.out]
                              have hLn : L < s.nb := by rw [← HNB.out]; exact hLl
                              have hil : Z < s.len L := by have := HIA.out; unfold Sh.len; omega
                              have hFm : F3 < m := by rw [HMT.out, ← hat]; exact Sh.at_lt HO.out hLn hil
                              have hU4 := Upto.put_ HO.out HU3.out hLn hil hat
                              have hB4 := HBK3.out.set_ L Z (raw F3) hLl
                              have c0 := HBK3.out.head L hLl (by rw [← HNB.out]; exact Nat.le_refl _)
                              have c1 := HBK3.out.words L hLl
                              have c2 := HBK3.out.cell L Z hLl hil
                              have c3 := (HBK3.out.by_ L hLl).free Z
                              have cr := (HBE3.out.cell (p := ⟨rb, ro + F3, none⟩) hrb).trans (HRC.out F3 hFm)
                              obtain ⟨v, hv⟩ : ∃ v, v = raw F3 := ⟨_, rfl⟩
                              rw [← hv] at cr hU4 hB4
                              obtain ⟨l, hle⟩ : ∃ l, l = s.len L := ⟨_, rfl⟩
                              rw [← hle] at c1 hil
                              obtain ⟨x0, hx0⟩ : ∃ x0 : Nat, x0 = f3 L Z := ⟨_, rfl⟩
                              rw [← hx0] at c2
                              have hil2 : (Z : Int) < (l : Int) := by omega
                              have hFm2 : (F3 : Int) < (m : Int) := by omega
                              have hF0 : (0 : Int) ≤ (F3 : Int) := by omega
                              have hZ0 : (0 : Int) ≤ (Z : Int) := by omega
                              have hL0 : (0 : Int) ≤ (L : Int) := by omega
                              have HB4 := Lib.hid hB4
                              have HU4 := Lib.hid hU4
                              have HBE4 := Lib.hid (HBE3.out.setCell (p := ⟨C L, Z, none⟩) (by have := HBK3.out.lo L hLl; have := HR0.out; dsimp only; omega) (.int .u8 (v : Nat)))
                              have HF4 : Hid (F3 + 1 = I * J + s.lg + (K - I) * J + (L + 1)) := Lib.hid (by rw [HF3.out]; omega)
                              by_cases hge : st ≤ L
                              · have eZ : (K : Int) + 1 = (Z : Int) := by have := Sh.ds_hi (s := s) (j := L) (by rw [← HST.out]; exact hge); have := HSH.out; omega
                                have hge2 : (st : Int) ≤ (L : Int) := by omega
                                clear hat hU4 hB4 hv hle hx0 HBK3 HBE3 HU3 HF3 hLn hZ hge
                                go_wp2_with fail
                                go_region
                                go_wp2_with fail
                                go_roundw
                                case rel => exact ⟨L + 1, F3 + 1, _, by omega, by go_num, by go_num, HF4, Lib.hid (HB4.out.mod (Mod.drewN (Mod.refl (S := fun _ => False) _) 1) (fun _ _ h => h)), HU4, Lib.hid (below_drewN HBE4.out 1)⟩
                                case measure => simp [intOf]; omega
                              · obtain rfl : Z = K := by have := Sh.ds_lo (s := s) (j := L) (by rw [← HST.out]; omega); have := HSH.out; omega
                                have hge2 : ((st : Int) ≤ (L : Int)) = False := by simp; omega
                                clear hat hU4 hB4 hv hle hx0 HBK3 HBE3 HU3 HF3 hLn hZ hge
                                go_wp2_with fail
                                go_region
                                go_wp2_with fail
                                go_roundw
                                case rel => exact ⟨L + 1, F3 + 1, _, by omega, by go_num, by go_num, HF4, Lib.hid (HB4.out.mod (Mod.drewN (Mod.refl (S := fun _ => False) _) 1) (fun _ _ h => h)), HU4, Lib.hid (below_drewN HBE4.out 1)⟩
                                case measure => simp [intOf]; omega
                            · obtain rfl : L = J := by omega
                              have hL1 : ((L : Int) < (L : Int)) = False := by simp
                              have HF4 : Hid (F3 = I * L + s.lg + (K + 1 - I) * L) := Lib.hid (by rw [HF3.out, show K + 1 - I = K - I + 1 by omega, Nat.add_mul (K - I)]; omega)
                              go_wp2_with fail
                              go_roundw
                              case rel => exact ⟨K + 1, F3, f3, by omega, by omega, by go_num, rfl, HF4, HBK3, HU3, HBE3⟩
                              case measure => simp [intOf]; omega
                        · obtain rfl : K = a := by omega
                          have hK1 : ((K : Int) < (K : Int)) = False := by simp
                          have HUE : Hid (Upto s raw f s.tot) := Lib.hid (by
                            have h5 : F = s.tot := by
                              rw [HF.out, ← HMT.out, ← HT2.out.2.2.1, HIA.out, show I + s.ec - I = s.ec by omega]
                            rw [← h5]; exact HU.out)
                          clear HF HU
                          go_wp2_with fail
                          go_ret2
                          exact BlkPost.mk HNB.out HBK.out HUE HR0.out HBE.out


def BlkNo (w : World) (e : Ending) (w' : World) : Prop := ∃ v, e = .returned (.tuple #[.slice none 0 0, v]) ∧ IsErr v ∧ Below w.heap.size w w'
set_option maxRecDepth 100000 in
set_option maxHeartbeats 1600000 in
theorem getBlocks_no (n l m c p : Nat) (A : Option Addr) (hm : m ≠ totOf n) (w : World) (hv : VerAt w p n) :
    Calls Try.prog 45 #[.slice A m c, .pointer (some ⟨p, 0, none⟩), .int .i64 l] w (BlkNo w) := by
  obtain ⟨s0, hs0, hA, hB⟩ := hv
  have a3 := hA.cell? 3
  simp only [List.getElem?_cons_zero, List.getElem?_cons_succ] at a3
  obtain ⟨t, ht⟩ : ∃ t, t = totOf n := ⟨_, rfl⟩
  rw [← ht] at a3 hm
  have HA3 := Lib.hid a3
  have hne : ((m : Int) == (t : Int)) = false := by simp; omega
  have hne2 : ((m : Int) != (t : Int)) = true := by simp; omega
  clear ht a3 hm hA hB hs0
  go_enter Try.func45, Try.ntmps45
  go_wp2_with fail
  refine (verTotal p t w HA3.out).mono ?_
  rintro e w1 ⟨rfl, rfl⟩
  go_wp2_with fail
  refine (err_new _ _).mono ?_
  rintro e w1 ⟨v, rfl, hx, hb⟩
  have HB := Lib.hid hb
  clear hb
  go_wp2_with fail
  go_ret2
  exact ⟨v, rfl, hx, HB.out⟩
end Go.Proofs.Ytpeipolknphjhaa
