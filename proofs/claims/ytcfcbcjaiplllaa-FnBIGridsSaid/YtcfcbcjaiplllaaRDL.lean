/-
  ParseBoolMapToBitMatrix, with what lies behind a row's end. No condition beyond the bounds that each theorem states.
-/
import Derived.Test.YtcfcbcjaiplllaaBGR
import Derived.Deep.RegionHeld3
import Derived.Deep.DeepCutAuto
namespace Go.Proofs.Ytcfcbcjaiplllaa
open Go.RowKit Go.Qz
set_option linter.unusedVariables false

theorem at_injP {W x y x' y' : Nat} (hx : x < (W + 31) / 32 * 32) (hx' : x' < (W + 31) / 32 * 32) (h : y * ((W + 31) / 32) + x / 32 = y' * ((W + 31) / 32) + x' / 32) : y = y' ∧ x / 32 = x' / 32 := by
  have h1 : x / 32 < (W + 31) / 32 := by omega
  have h2 : x' / 32 < (W + 31) / 32 := by omega
  generalize (W + 31) / 32 = R at *
  have h3 : y = y' := by
    rcases Nat.lt_trichotomy y y' with a | a | a
    · have := Nat.mul_le_mul_right R (show y + 1 ≤ y' from a)
      rw [Nat.add_mul, Nat.one_mul] at this; omega
    · exact a
    · have := Nat.mul_le_mul_right R (show y' + 1 ≤ y from a)
      rw [Nat.add_mul, Nat.one_mul] at this; omega
  subst h3
  exact ⟨rfl, by omega⟩
theorem mb_setP (ws : List Nat) (W H x y i j : Nat) (hlen : ws.length = (W + 31) / 32 * H) (hi : i < W) (hj : j < H) (hx : x < (W + 31) / 32 * 32) :
    mb (ws.set (j * ((W + 31) / 32) + i / 32) (nth ws (j * ((W + 31) / 32) + i / 32) ||| 2 ^ (i % 32))) W x y = (mb ws W x y || decide (x = i ∧ y = j)) := by
  unfold mb
  rw [nth_set (by rw [hlen]; exact at_lt hi hj)]
  by_cases h : y * ((W + 31) / 32) + x / 32 = j * ((W + 31) / 32) + i / 32
  · obtain ⟨h1, h2⟩ := at_injP hx (show i < (W + 31) / 32 * 32 by omega) h
    rw [if_pos h, h, Nat.testBit_or, Nat.testBit_two_pow]
    congr 1
    rw [Bool.eq_iff_iff]
    simp only [decide_eq_true_eq]
    omega
  · rw [if_neg h]
    have : ¬ (x = i ∧ y = j) := by rintro ⟨rfl, rfl⟩; exact h rfl
    simp [this]
/-- Words that show the modules so far: the rows ahead, and of this row the first ones. -/
def ShowsP (ws : List Nat) (W H : Nat) (f : Nat → Nat → Bool) (k j : Nat) : Prop := ∀ x y, x < (W + 31) / 32 * 32 → y < H → mb ws W x y = (decide (x < W ∧ (y < k ∨ y = k ∧ x < j)) && f y x)

set_option maxRecDepth 100000 in
set_option maxHeartbeats 3200000 in
theorem bm_parseP (W H : Nat) (hW : 0 < W) (hH : 0 < H) (hWl : W < 1000) (hHl : H < 1000) (f : Nat → Nat → Bool) (A : Option Addr) (c : Nat) (w : World) (h : Rows2 w A H W f) :
    Calls Try.prog 60 #[.slice A H c] w fun e w' => ∃ p g ws, e = .returned (.tuple #[.pointer (some ⟨p, 0, none⟩), .nilIface]) ∧ BM w' p g ws W H ∧ Hid (∀ x y, x < (W + 31) / 32 * 32 → y < H → mb ws W x y = (decide (x < W) && f y x)) ∧ Below w.heap.size w w' ∧ w.heap.size ≤ p ∧ w.heap.size ≤ g := by
  have HR := Lib.hid h
  obtain ⟨b, off, rfl, hb, hr⟩ := h hH
  obtain ⟨B0, C0, h00, _⟩ := hr 0 hH
  rw [Nat.add_zero] at h00
  have hH1 : (0 : Int) < (H : Int) := by omega
  have hneq2 : ∀ W, (binOp .neq 53 .nilIface .nilIface).run Try.prog W = .ok (.bool false) W := fun W => rfl
  have HRR := Lib.hid hr
  clear hr h
  go_enter Try.func60, Try.ntmps60
  go_wp2_with fail
  refine (bm_new W H hW hH (by omega) (by omega) w).mono ?_
  rintro e w1 ⟨p, g, rfl, hbm, hbel, hp, hg⟩
  have HS0 : Hid (ShowsP (List.replicate ((W + 31) / 32 * H) 0) W H f 0 0) := Lib.hid (fun x y _ _ => by rw [mb_zeros]; simp)
  have HBM := Lib.hid hbm
  have HBEL := Lib.hid hbel
  clear hbm hbel
  go_wp2_with fail
  go_loopw [8] (fun i wr => ∃ (k : Nat) (ws : List Nat), k ≤ H ∧ i = .int .i64 k ∧ BM wr p g ws W H ∧ Below w.heap.size w wr ∧ Hid (ShowsP ws W H f k 0)) (fun i _ => H - (intOf i).toNat)
  case atStart => exact ⟨0, _, by omega, rfl, HBM.out, HBEL.out, HS0⟩
  case round =>
    obtain ⟨k, ws, hk, rfl, hbm, hbel, HS⟩ := hrel
    clear HBM HBEL HS0
    by_cases hlt : k < H
    · obtain ⟨b', off', e0, hb', hrows⟩ := (HR.out.below hbel) hH
      injection e0 with e0
      injection e0 with e0 e1 _
      subst e0 e1
      obtain ⟨B, C, hrow, hrd⟩ := hrows k hlt
      have hk0 : (0 : Int) ≤ (k : Int) := by omega
      have hk1 : (k : Int) < (H : Int) := by omega
      obtain ⟨rb, ro, rfl, hrb, hrc⟩ := hrd hW
      dsimp only at hrc
      have HRC := Lib.hid hrc
      have HBM := Lib.hid hbm
      have HBEL := Lib.hid hbel
      obtain ⟨W5, hW5⟩ : ∃ W5, W5 = wr := ⟨_, rfl⟩
      rw [← hW5] at hrb HRC HBM HBEL hrow ⊢
      have hrbp : Hid (∀ W', Below W5.heap.size W5 W' → True) := Lib.hid (fun _ _ => trivial)
      have hrbw : rb < w.heap.size := by
        obtain ⟨B2, C2, hrow2, hrd2⟩ := HRR.out k hlt
        have h3 : W5.cell? ⟨b, off + k, none⟩ = some (.slice B2 W C2) := (HBEL.out.cell (p := ⟨b, off + k, none⟩) hb).trans hrow2
        rw [hrow] at h3
        injection h3 with h3
        injection h3 with h3 _ _
        obtain ⟨rb2, ro2, e2, hl2, _⟩ := hrd2 hW
        rw [← h3] at e2
        injection e2 with e2
        injection e2 with e2 _ _
        omega
      clear hrows hrd hrc hbm hbel hW5 hrbp
      go_wp2_with fail
      go_loopw [10] (fun i wr => ∃ (j : Nat) (ws : List Nat), j ≤ W ∧ i = .int .i64 j ∧ BM wr p g ws W H ∧ Below w.heap.size w wr ∧ Hid (ShowsP ws W H f k j) ∧ Hid (∀ j, j < W → wr.cell? ⟨rb, ro + j, none⟩ = some (.bool (f k j)))) (fun i _ => W - (intOf i).toNat)
      case atStart => exact ⟨0, ws, by omega, rfl, HBM.out, HBEL.out, HS, HRC⟩
      case round =>
        obtain ⟨j, ws2, hj, rfl, hbm, hbel, HS2, HRC2⟩ := hrel
        clear HBM HBEL HS hrow HRC hrb
        by_cases hjl : j < W
        · have cv := HRC2.out j hjl
          have hj0 : (0 : Int) ≤ (j : Int) := by omega
          have hj1 : (j : Int) < (W : Int) := by omega
          have HBM := Lib.hid hbm
          have HBEL := Lib.hid hbel
          clear hbm hbel
          cases hv : f k j with
          | true =>
            rw [hv] at cv
            have HV := Lib.hid hv
            have HST := Lib.hid (bm_set (j : Int) (k : Int) j k rfl rfl p g W H ws2 wr HBM.out hjl hlt (by omega) (by omega))
            have hlen := HBM.out.len
            have hql : k * ((W + 31) / 32) + j / 32 < ws2.length := by rw [hlen]; exact at_lt hjl hlt
            have hx := HBM.out.lt _ (nth_mem hql)
            have h2p : 2 ^ (j % 32) < 2 ^ 32 := Nat.pow_lt_pow_right (by decide) (by omega)
            have hnew : nth ws2 (k * ((W + 31) / 32) + j / 32) ||| 2 ^ (j % 32) < 4294967296 := by
              have := Nat.or_lt_two_pow (n := 32) (show nth ws2 (k * ((W + 31) / 32) + j / 32) < 2 ^ 32 by omega) h2p; omega
            have hbm2 := HBM.out.set_ (k * ((W + 31) / 32) + j / 32) (nth ws2 (k * ((W + 31) / 32) + j / 32) ||| 2 ^ (j % 32)) hnew
            have HS3 : Hid (ShowsP (ws2.set (k * ((W + 31) / 32) + j / 32) (nth ws2 (k * ((W + 31) / 32) + j / 32) ||| 2 ^ (j % 32))) W H f k (j + 1)) := Lib.hid (fun x y hx hy => by
              rw [mb_setP ws2 W H x y j k hlen hjl hlt hx, HS2.out x y hx hy]
              by_cases e : x = j ∧ y = k
              · obtain ⟨rfl, rfl⟩ := e
                rw [HV.out]; simp [hjl]
              · have e1 : decide (x = j ∧ y = k) = false := by simpa using e
                rw [e1, Bool.or_false]
                congr 1
                rw [Bool.eq_iff_iff]; simp only [decide_eq_true_eq]; omega)
            have HB3 := Lib.hid (HBEL.out.setCell (p := ⟨g, k * ((W + 31) / 32) + j / 32, none⟩) hg (.int .u32 ((nth ws2 (k * ((W + 31) / 32) + j / 32) ||| 2 ^ (j % 32) : Nat) : Int)))
            have HRC3 : Hid (∀ j', j' < W → (wr.setCell ⟨g, k * ((W + 31) / 32) + j / 32, none⟩ (.int .u32 ((nth ws2 (k * ((W + 31) / 32) + j / 32) ||| 2 ^ (j % 32) : Nat) : Int))).cell? ⟨rb, ro + j', none⟩ = some (.bool (f k j'))) := Lib.hid (fun j' hj' => by
              rw [← HRC2.out j' hj']
              exact World.cell?_of_block (w := wr) (Below.heap_setCell _ _ _ _ (by dsimp only; omega)))
            have HBM2 := Lib.hid hbm2
            clear hv hbm2 hnew h2p hx hql hlen HS2 HRC2 HBM HBEL
            go_wp2_with fail
            refine HST.out.mono ?_
            rintro e w3 ⟨rfl, rfl⟩
            generalize (wr.setCell ⟨g, k * ((W + 31) / 32) + j / 32, none⟩ (.int .u32 ((nth ws2 (k * ((W + 31) / 32) + j / 32) ||| 2 ^ (j % 32) : Nat) : Int))) = w9 at *
            generalize ws2.set (k * ((W + 31) / 32) + j / 32) (nth ws2 (k * ((W + 31) / 32) + j / 32) ||| 2 ^ (j % 32)) = ws9 at *
            clear HST
            go_wp2_with fail
            go_roundw
            case rel => exact ⟨j + 1, ws9, by omega, by go_num, HBM2.out, HB3.out, HS3, HRC3⟩
            case measure => simp [intOf]; omega
          | false =>
            rw [hv] at cv
            have HS3 : Hid (ShowsP ws2 W H f k (j + 1)) := Lib.hid (fun x y hx hy => by
              rw [HS2.out x y hx hy]
              by_cases e : x = j ∧ y = k
              · obtain ⟨rfl, rfl⟩ := e
                rw [hv]; simp
              · congr 1
                rw [Bool.eq_iff_iff]; simp only [decide_eq_true_eq]; omega)
            clear hv HS2
            go_wp2_with fail
            go_roundw
            case rel => exact ⟨j + 1, ws2, by omega, by go_num, HBM.out, HBEL.out, HS3, HRC2⟩
            case measure => simp [intOf]; omega
        · obtain rfl : j = W := by omega
          have HS3 : Hid (ShowsP ws2 j H f (k + 1) 0) := Lib.hid (fun x y hx hy => by
            rw [HS2.out x y hx hy]; congr 1
            rw [Bool.eq_iff_iff]; simp only [decide_eq_true_eq]; omega)
          clear HS2
          go_wp2_with fail
          go_roundw
          case rel => exact ⟨k + 1, ws2, by omega, by go_num, hbm, hbel, HS3⟩
          case measure => simp [intOf]; omega
    · obtain rfl : k = H := by omega
      have HBM := Lib.hid hbm
      have HM : Hid (∀ x y, x < (W + 31) / 32 * 32 → y < k → mb ws W x y = (decide (x < W) && f y x)) := Lib.hid (fun x y hx hy => by rw [HS.out x y hx hy]; congr 1; rw [Bool.eq_iff_iff]; simp only [decide_eq_true_eq]; omega)
      clear hbm HS
      go_wp2_with fail
      go_ret2
      exact ⟨p, g, ws, rfl, HBM.out, HM, hbel, hp, hg⟩

set_option maxRecDepth 100000 in
set_option maxHeartbeats 1600000 in
theorem gridP (W H : Nat) (hW : 0 < W) (hH : 0 < H) (hWl : W < 1000) (hHl : H < 1000) (f : Nat → Nat → Bool) (A : Option Addr) (c : Nat) (w : World) (h : Rows2 w A H W f) :
    Calls Try.prog 23 #[.slice A H c] w fun e w' => ∃ p g ws, e = .returned (.tuple #[.pointer (some ⟨p, 0, none⟩), .nilIface]) ∧ Hid (BM w' p g ws W H) ∧ Hid (∀ x y, x < (W + 31) / 32 * 32 → y < H → mb ws W x y = (decide (x < W) && f y x)) ∧ Below w.heap.size w w' ∧ w.heap.size ≤ p ∧ w.heap.size ≤ g := by
  have HP := Lib.hid (bm_parseP W H hW hH hWl hHl f A c w h)
  clear h
  go_enter Try.func23, Try.ntmps23
  go_wp2_with fail
  refine HP.out.mono ?_
  rintro e w1 ⟨p, g, ws, rfl, hbm, HM, hb, hp, hg⟩
  have HBM := Lib.hid hbm
  have HB := Lib.hid hb
  clear hbm hb
  go_wp2_with fail
  go_ret2
  exact ⟨p, g, ws, rfl, HBM, HM, HB.out, hp, hg⟩

end Go.Proofs.Ytcfcbcjaiplllaa
