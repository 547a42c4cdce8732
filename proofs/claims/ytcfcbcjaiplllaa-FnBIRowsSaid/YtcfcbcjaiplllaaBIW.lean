/-
  ParseBoolMapToBitMatrix, grid, GridRow, biRows and the statement FnBIRows, walked. No condition.
-/
import Derived.Test.YtcfcbcjaiplllaaBGR
import Derived.Deep.RegionHeld3
import Derived.Deep.DeepCutAuto
namespace Go.Proofs.Ytcfcbcjaiplllaa
open Go.RowKit Go.Qz
set_option linter.unusedVariables false

/-- Words that show the modules so far: the rows ahead, and of this row the first ones. -/
def Shows (ws : List Nat) (W H : Nat) (f : Nat → Nat → Bool) (k j : Nat) : Prop := ∀ x y, x < W → y < H → mb ws W x y = (decide (y < k ∨ y = k ∧ x < j) && f y x)

set_option maxRecDepth 100000 in
set_option maxHeartbeats 3200000 in
theorem bm_parse (W H : Nat) (hW : 0 < W) (hH : 0 < H) (hWl : W < 1000) (hHl : H < 1000) (f : Nat → Nat → Bool) (A : Option Addr) (c : Nat) (w : World) (h : Rows2 w A H W f) :
    Calls Try.prog 60 #[.slice A H c] w fun e w' => ∃ p g ws, e = .returned (.tuple #[.pointer (some ⟨p, 0, none⟩), .nilIface]) ∧ BM w' p g ws W H ∧ Hid (∀ x y, x < W → y < H → mb ws W x y = f y x) ∧ Below w.heap.size w w' ∧ w.heap.size ≤ p ∧ w.heap.size ≤ g := by
  have HR := Lib.hid h
  obtain ⟨b, off, rfl, hb, hr⟩ := h hH
  obtain ⟨B0, C0, h00, _⟩ := hr 0 hH
  rw [Nat.add_zero] at h00
  have hH1 : (0 : Int) < (H : Int) := by omega
  have hneq2 : ∀ W, (binOp .neq 53 .nilIface .nilIface).run Try.prog W = .ok (.bool false) W := fun W => rfl
  have HRR := Lib.hid hr
  clear hr h
  go_enter Try.func60, Try.ntmps60
  go_wp2_with fail
  refine (bm_new W H hW hH (by omega) (by omega) w).mono ?_
  rintro e w1 ⟨p, g, rfl, hbm, hbel, hp, hg⟩
  have HS0 : Hid (Shows (List.replicate ((W + 31) / 32 * H) 0) W H f 0 0) := Lib.hid (fun x y _ _ => by rw [mb_zeros]; simp)
  have HBM := Lib.hid hbm
  have HBEL := Lib.hid hbel
  clear hbm hbel
  go_wp2_with fail
  go_loopw [8] (fun i wr => ∃ (k : Nat) (ws : List Nat), k ≤ H ∧ i = .int .i64 k ∧ BM wr p g ws W H ∧ Below w.heap.size w wr ∧ Hid (Shows ws W H f k 0)) (fun i _ => H - (intOf i).toNat)
  case atStart => exact ⟨0, _, by omega, rfl, HBM.out, HBEL.out, HS0⟩
  case round =>
    obtain ⟨k, ws, hk, rfl, hbm, hbel, HS⟩ := hrel
    clear HBM HBEL HS0
    by_cases hlt : k < H
    · obtain ⟨b', off', e0, hb', hrows⟩ := (HR.out.below hbel) hH
      injection e0 with e0
      injection e0 with e0 e1 _
      subst e0 e1
      obtain ⟨B, C, hrow, hrd⟩ := hrows k hlt
      have hk0 : (0 : Int) ≤ (k : Int) := by omega
      have hk1 : (k : Int) < (H : Int) := by omega
      obtain ⟨rb, ro, rfl, hrb, hrc⟩ := hrd hW
      dsimp only at hrc
      have HRC := Lib.hid hrc
      have HBM := Lib.hid hbm
      have HBEL := Lib.hid hbel
      obtain ⟨W5, hW5⟩ : ∃ W5, W5 = wr := ⟨_, rfl⟩
      rw [← hW5] at hrb HRC HBM HBEL hrow ⊢
      have hrbp : Hid (∀ W', Below W5.heap.size W5 W' → True) := Lib.hid (fun _ _ => trivial)
      have hrbw : rb < w.heap.size := by
        obtain ⟨B2, C2, hrow2, hrd2⟩ := HRR.out k hlt
        have h3 : W5.cell? ⟨b, off + k, none⟩ = some (.slice B2 W C2) := (HBEL.out.cell (p := ⟨b, off + k, none⟩) hb).trans hrow2
        rw [hrow] at h3
        injection h3 with h3
        injection h3 with h3 _ _
        obtain ⟨rb2, ro2, e2, hl2, _⟩ := hrd2 hW
        rw [← h3] at e2
        injection e2 with e2
        injection e2 with e2 _ _
        omega
      clear hrows hrd hrc hbm hbel hW5 hrbp
      go_wp2_with fail
      go_loopw [10] (fun i wr => ∃ (j : Nat) (ws : List Nat), j ≤ W ∧ i = .int .i64 j ∧ BM wr p g ws W H ∧ Below w.heap.size w wr ∧ Hid (Shows ws W H f k j) ∧ Hid (∀ j, j < W → wr.cell? ⟨rb, ro + j, none⟩ = some (.bool (f k j)))) (fun i _ => W - (intOf i).toNat)
      case atStart => exact ⟨0, ws, by omega, rfl, HBM.out, HBEL.out, HS, HRC⟩
      case round =>
        obtain ⟨j, ws2, hj, rfl, hbm, hbel, HS2, HRC2⟩ := hrel
        clear HBM HBEL HS hrow HRC hrb
        by_cases hjl : j < W
        · have cv := HRC2.out j hjl
          have hj0 : (0 : Int) ≤ (j : Int) := by omega
          have hj1 : (j : Int) < (W : Int) := by omega
          have HBM := Lib.hid hbm
          have HBEL := Lib.hid hbel
          clear hbm hbel
          cases hv : f k j with
          | true =>
            rw [hv] at cv
            have HV := Lib.hid hv
            have HST := Lib.hid (bm_set (j : Int) (k : Int) j k rfl rfl p g W H ws2 wr HBM.out hjl hlt (by omega) (by omega))
            have hlen := HBM.out.len
            have hql : k * ((W + 31) / 32) + j / 32 < ws2.length := by rw [hlen]; exact at_lt hjl hlt
            have hx := HBM.out.lt _ (nth_mem hql)
            have h2p : 2 ^ (j % 32) < 2 ^ 32 := Nat.pow_lt_pow_right (by decide) (by omega)
            have hnew : nth ws2 (k * ((W + 31) / 32) + j / 32) ||| 2 ^ (j % 32) < 4294967296 := by
              have := Nat.or_lt_two_pow (n := 32) (show nth ws2 (k * ((W + 31) / 32) + j / 32) < 2 ^ 32 by omega) h2p; omega
            have hbm2 := HBM.out.set_ (k * ((W + 31) / 32) + j / 32) (nth ws2 (k * ((W + 31) / 32) + j / 32) ||| 2 ^ (j % 32)) hnew
            have HS3 : Hid (Shows (ws2.set (k * ((W + 31) / 32) + j / 32) (nth ws2 (k * ((W + 31) / 32) + j / 32) ||| 2 ^ (j % 32))) W H f k (j + 1)) := Lib.hid (fun x y hx hy => by
              rw [mb_set ws2 W H x y j k hlen hjl hlt hx, HS2.out x y hx hy]
              by_cases e : x = j ∧ y = k
              · obtain ⟨rfl, rfl⟩ := e
                rw [HV.out]; simp
              · have e1 : decide (x = j ∧ y = k) = false := by simpa using e
                rw [e1, Bool.or_false]
                congr 1
                rw [Bool.eq_iff_iff]; simp only [decide_eq_true_eq]; omega)
            have HB3 := Lib.hid (HBEL.out.setCell (p := ⟨g, k * ((W + 31) / 32) + j / 32, none⟩) hg (.int .u32 ((nth ws2 (k * ((W + 31) / 32) + j / 32) ||| 2 ^ (j % 32) : Nat) : Int)))
            have HRC3 : Hid (∀ j', j' < W → (wr.setCell ⟨g, k * ((W + 31) / 32) + j / 32, none⟩ (.int .u32 ((nth ws2 (k * ((W + 31) / 32) + j / 32) ||| 2 ^ (j % 32) : Nat) : Int))).cell? ⟨rb, ro + j', none⟩ = some (.bool (f k j'))) := Lib.hid (fun j' hj' => by
              rw [← HRC2.out j' hj']
              exact World.cell?_of_block (w := wr) (Below.heap_setCell _ _ _ _ (by dsimp only; omega)))
            have HBM2 := Lib.hid hbm2
            clear hv hbm2 hnew h2p hx hql hlen HS2 HRC2 HBM HBEL
            go_wp2_with fail
            refine HST.out.mono ?_
            rintro e w3 ⟨rfl, rfl⟩
            generalize (wr.setCell ⟨g, k * ((W + 31) / 32) + j / 32, none⟩ (.int .u32 ((nth ws2 (k * ((W + 31) / 32) + j / 32) ||| 2 ^ (j % 32) : Nat) : Int))) = w9 at *
            generalize ws2.set (k * ((W + 31) / 32) + j / 32) (nth ws2 (k * ((W + 31) / 32) + j / 32) ||| 2 ^ (j % 32)) = ws9 at *
            clear HST
            go_wp2_with fail
            go_roundw
            case rel => exact ⟨j + 1, ws9, by omega, by go_num, HBM2.out, HB3.out, HS3, HRC3⟩
            case measure => simp [intOf]; omega
          | false =>
            rw [hv] at cv
            have HS3 : Hid (Shows ws2 W H f k (j + 1)) := Lib.hid (fun x y hx hy => by
              rw [HS2.out x y hx hy]
              by_cases e : x = j ∧ y = k
              · obtain ⟨rfl, rfl⟩ := e
                rw [hv]; simp
              · congr 1
                rw [Bool.eq_iff_iff]; simp only [decide_eq_true_eq]; omega)
            clear hv HS2
            go_wp2_with fail
            go_roundw
            case rel => exact ⟨j + 1, ws2, by omega, by go_num, HBM.out, HBEL.out, HS3, HRC2⟩
            case measure => simp [intOf]; omega
        · obtain rfl : j = W := by omega
          have HS3 : Hid (Shows ws2 j H f (k + 1) 0) := Lib.hid (fun x y hx hy => by
            rw [HS2.out x y hx hy]; congr 1
            rw [Bool.eq_iff_iff]; simp only [decide_eq_true_eq]; omega)
          clear HS2
          go_wp2_with fail
          go_roundw
          case rel => exact ⟨k + 1, ws2, by omega, by go_num, hbm, hbel, HS3⟩
          case measure => simp [intOf]; omega
    · obtain rfl : k = H := by omega
      have HBM := Lib.hid hbm
      have HM : Hid (∀ x y, x < W → y < k → mb ws W x y = f y x) := Lib.hid (fun x y hx hy => by rw [HS.out x y hx hy]; simp [hy])
      clear hbm HS
      go_wp2_with fail
      go_ret2
      exact ⟨p, g, ws, rfl, HBM.out, HM, hbel, hp, hg⟩

set_option maxRecDepth 100000 in
set_option maxHeartbeats 1600000 in
theorem gridNew (W H : Nat) (hW : 0 < W) (hH : 0 < H) (hWl : W < 1000) (hHl : H < 1000) (f : Nat → Nat → Bool) (A : Option Addr) (c : Nat) (w : World) (h : Rows2 w A H W f) :
    Calls Try.prog 23 #[.slice A H c] w fun e w' => ∃ p g ws, e = .returned (.tuple #[.pointer (some ⟨p, 0, none⟩), .nilIface]) ∧ Hid (BM w' p g ws W H) ∧ Hid (∀ x y, x < W → y < H → mb ws W x y = f y x) ∧ Below w.heap.size w w' ∧ w.heap.size ≤ p ∧ w.heap.size ≤ g := by
  have HP := Lib.hid (bm_parse W H hW hH hWl hHl f A c w h)
  clear h
  go_enter Try.func23, Try.ntmps23
  go_wp2_with fail
  refine HP.out.mono ?_
  rintro e w1 ⟨p, g, ws, rfl, hbm, HM, hb, hp, hg⟩
  have HBM := Lib.hid hbm
  have HB := Lib.hid hb
  clear hbm hb
  go_wp2_with fail
  go_ret2
  exact ⟨p, g, ws, rfl, HBM, HM, HB.out, hp, hg⟩

set_option maxRecDepth 100000 in
set_option maxHeartbeats 1600000 in
theorem gridRow (W H y : Nat) (hW : 0 < W) (hH : 0 < H) (hWl : W < 1000) (hHl : H < 1000) (hy : y < H) (f : Nat → Nat → Bool) (A : Option Addr) (c : Nat) (w : World) (h : Rows2 w A H W f) :
    Calls Try.prog 12 #[.slice A H c, .int .i64 y] w fun e w' => ∃ b, e = .returned (.slice (some ⟨b, 0, none⟩) W W) ∧ Hid (Rd w' (some ⟨b, 0, none⟩) W (fun j => .bool (f y j))) ∧ Below w.heap.size w w' := by
  have HP := Lib.hid (gridNew W H hW hH hWl hHl f A c w h)
  have hneq2 : ∀ W, (binOp .neq 53 .nilIface .nilIface).run Try.prog W = .ok (.bool false) W := fun W => rfl
  clear h
  go_enter Try.func12, Try.ntmps12
  go_wp2_with fail
  refine HP.out.mono ?_
  rintro e w1 ⟨p, g, ws, rfl, HBM, HM, hb, hp, hg⟩
  have HROW := Lib.hid (bm_row p g W H y ws w1 HBM.out hy hW (by omega) (by omega))
  have HB := Lib.hid hb
  clear hb HP
  go_wp2_with fail
  refine HROW.out.mono ?_
  rintro e w2 ⟨q, r, rfl, hba, hb2⟩
  have HB2 := Lib.hid (HB.out.trans (hb2.mono HB.out.size))
  have HBS := Lib.hid (ba_bools q r W _ w2 hba (by omega) (by simp [rowOf]))
  clear hb2 hba HROW
  go_wp2_with fail
  refine HBS.out.mono ?_
  rintro e w3 ⟨b, rfl, hrd, hb3⟩
  have HB3 := Lib.hid (HB2.out.trans (hb3.mono HB2.out.size))
  have HRD : Hid (Rd w3 (some ⟨b, 0, none⟩) W (fun j => .bool (f y j))) := Lib.hid (hrd.congr fun j hj => by rw [rowOf_bit _ _ _ _ hj, HM.out j y hj hy])
  clear hb3 hrd HBS
  go_wp2_with fail
  go_ret
  exact ⟨b, rfl, HRD, HB3.out⟩

set_option maxRecDepth 100000 in
set_option maxHeartbeats 1600000 in
theorem lawRows (x y : Nat) (hx : x < 256) (hy : y < 256) (z : Nat → Bool) (A : Option Addr) (n c : Nat) (hn : n < 4294967296) (w : World) (h : Rd w A n (fun j => .bool (z j))) :
    Calls Try.prog 10 #[.int .u8 x, .int .u8 y, .slice A n c] w fun e w' => ∃ b W H, e = .returned (.slice (some ⟨b, 0, none⟩) H H) ∧ 0 < W ∧ W < 71 ∧ 0 < H ∧ H < 71 ∧ Hid (W = 1 + x % 70 ∧ H = 1 + y % 70) ∧ Hid (Rows2 w' (some ⟨b, 0, none⟩) H W (fitB z n W)) ∧ Below w.heap.size w w' := by
  obtain ⟨W, hW⟩ : ∃ W, W = 1 + x % 70 := ⟨_, rfl⟩
  obtain ⟨H, hH⟩ : ∃ H, H = 1 + y % 70 := ⟨_, rfl⟩
  have eW : (1 : Int) + (x : Int) % 70 = (W : Int) := by omega
  have eH : (1 : Int) + (y : Int) % 70 = (H : Int) := by omega
  have hW0 : 0 < W := by omega
  have hW1 : W < 71 := by omega
  have hH0 : 0 < H := by omega
  have hH1 : H < 71 := by omega
  have HB := Lib.hid (biRows2 W H hW0 hH0 (by omega) (by omega) z A n c hn w h)
  have HE := Lib.hid (And.intro hW hH)
  clear hW hH h
  go_enter Try.func10, Try.ntmps10
  go_wp2_with fail
  refine HB.out.mono ?_
  rintro e w1 ⟨b, rfl, HR, hb⟩
  go_wp2_with fail
  go_ret
  exact ⟨b, W, H, rfl, hW0, hW1, hH0, hH1, HE, HR, hb⟩

set_option maxRecDepth 100000 in
set_option maxHeartbeats 3200000 in
theorem fnBIRows (w : World) (x : Int) (hx : (Lit.int .u8 x).wf = true) (y : Int) (hy : (Lit.int .u8 y).wf = true) (A : Option Addr) (n c : Nat) (z : Nat → Bool) (hnc : n ≤ c) (hcm : c ≤ maxLen) (h : Rd w A n (fun j => .bool (z j))) (v : Int) (hv : (Lit.int .u8 v).wf = true) :
    Calls Try.prog 4 #[.int .u8 x, .int .u8 y, .slice A n c, .int .u8 v] w fun e w' => e = .returned (.bool true) ∧ Below w.heap.size w w' := by
  obtain ⟨x, rfl⟩ : ∃ z : Nat, x = z := ⟨x.toNat, by have := bd_u8 hx; omega⟩
  obtain ⟨y, rfl⟩ : ∃ z : Nat, y = z := ⟨y.toNat, by have := bd_u8 hy; omega⟩
  obtain ⟨v, rfl⟩ : ∃ z : Nat, v = z := ⟨v.toNat, by have := bd_u8 hv; omega⟩
  have hx1 : x < 256 := by have := bd_u8 hx; omega
  have hy1 : y < 256 := by have := bd_u8 hy; omega
  have hv1 : v < 256 := by have := bd_u8 hv; omega
  clear hx hy hv
  by_cases hbig : (2147483647 : Int) < n
  · go_enter Try.func4, Try.ntmps4
    go_wp2_with fail
    go_ret
    exact ⟨rfl, Below.refl _ _⟩
  have hn : n < 2147483648 := by omega
  have HL := Lib.hid (lawRows x y hx1 hy1 z A n c (by omega) w h)
  clear h
  go_enter Try.func4, Try.ntmps4
  go_wp2_with fail
  refine HL.out.mono ?_
  rintro e w1 ⟨b, W, H, rfl, hW0, hW1, hH0, hH1, HE, HR, hb⟩
  obtain ⟨k, hk⟩ : ∃ k, k = v % H := ⟨_, rfl⟩
  have ek : (v : Int).tmod (H : Int) = (k : Int) := by rw [Int.tmod_eq_emod_of_nonneg (by omega), hk]; simp
  have ek2 : (v : Int) % (H : Int) = (k : Int) := by rw [hk]; simp
  have hrem := fun W => rem_run (v : Int) (H : Int) (k : Int) (by omega) ek W
  have hkl : k < H := by rw [hk]; exact Nat.mod_lt _ hH0
  have hH2 : (0 : Int) < (H : Int) := by omega
  have hk0 : (0 : Int) ≤ (k : Int) := by omega
  have hk1 : (k : Int) < (H : Int) := by omega
  have HB := Lib.hid hb
  obtain ⟨b', off, e0, hbl, hrows⟩ := HR.out hH0
  injection e0 with e0
  injection e0 with e0 e1 _
  subst e0 e1
  obtain ⟨B, C, hrow, hrd⟩ := hrows k hkl
  rw [Nat.zero_add] at hrow
  have HROW := Lib.hid hrow
  have HRD := Lib.hid hrd
  have HG := Lib.hid (fun Wd hb => gridRow W H k hW0 hH0 (by omega) (by omega) hkl (fitB z n W) (some ⟨b, 0, none⟩) H Wd hb)
  obtain ⟨F, hF⟩ : ∃ F, F = fitB z n W k := ⟨_, rfl⟩
  clear hb hk hrows hrd HL ek
  go_wp2_with fail
  simp only [ek2]
  have hS : ∀ X : World, Below w1.heap.size w1 X → (X.cell? ⟨b, k, none⟩ = some (.slice B W C) ∧ Hid (Below w1.heap.size w1 X)) := fun X hX => ⟨(hX.cell (p := ⟨b, k, none⟩) hbl).trans HROW.out, Lib.hid hX⟩
  have HX := Lib.hid (fun (X : World) (hX : X.cell? ⟨b, k, none⟩ = some (.slice B W C) ∧ Hid (Below w1.heap.size w1 X)) =>
    (HG.out X (HR.out.below hX.2.out)).mono (R' := fun e w' => ∃ b2, e = .returned (.slice (some ⟨b2, 0, none⟩) W W) ∧ Hid (Rd w' (some ⟨b2, 0, none⟩) W (fun j => .bool (fitB z n W k j))) ∧ (w'.cell? ⟨b, k, none⟩ = some (.slice B W C) ∧ Hid (Below w1.heap.size w1 w'))) (by
      rintro e w' ⟨b2, rfl, HRD2, hb2⟩
      exact ⟨b2, rfl, HRD2, hS _ (hX.2.out.trans (hb2.mono hX.2.out.size))⟩))
  have HY := Lib.hid (fun (X : World) (hX : X.cell? ⟨b, k, none⟩ = some (.slice B W C) ∧ Hid (Below w1.heap.size w1 X)) (b2 : Nat) (hr2 : Hid (Rd X (some ⟨b2, 0, none⟩) W (fun j => .bool (fitB z n W k j)))) =>
    (biSameBits (fitB z n W k) (some ⟨b2, 0, none⟩) B W W C (by omega) X hr2.out (HRD.out.below hX.2.out)).mono (R' := fun e w' => e = .returned (.bool true) ∧ (w'.cell? ⟨b, k, none⟩ = some (.slice B W C) ∧ Hid (Below w1.heap.size w1 w'))) (by
      rintro e w' ⟨rfl, hb2⟩
      exact ⟨rfl, hS _ (hX.2.out.trans (hb2.mono hX.2.out.size))⟩))
  have hs0 := hS w1.drew (Below.refl _ _).drew
  clear HG HR hrem ek2 hS hbl
  go_region_held3 (fun w' => w'.cell? ⟨b, k, none⟩ = some (.slice B W C) ∧ Hid (Below w1.heap.size w1 w'))
    (first | exact hs0 | exact hs3 | exact hs4)
    (first | (go_at_call 12; refine (HX.out _ (by assumption)).mono ?_; rintro e w3 ⟨b2, rfl, HRD3, hs3⟩) | (go_at_call 11; refine (HY.out _ (by assumption) _ (by assumption)).mono ?_; rintro e w4 ⟨rfl, hs4⟩))
  go_wp2_with fail
  go_ret
  exact ⟨rfl, HB.out.trans (hs4.2.out.mono HB.out.size)⟩
end Go.Proofs.Ytcfcbcjaiplllaa
