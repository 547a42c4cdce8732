/-
  The penalty of blocks, and the statement FnQRPenaltyBlocks, walked. No condition.
-/
import Derived.Test.YtpeipolknphjhaaQPB
namespace Go.Proofs.Ytpeipolknphjhaa
open Go.RowKit Go.Qz
set_option linter.unusedVariables false

/-- Two by two alike; how many of them. -/
def alike (s : Nat → Nat → Bool) (y x : Nat) : Bool := decide (s y x = s y (x + 1)) && (decide (s y x = s (y + 1) x) && decide (s y x = s (y + 1) (x + 1)))
def cntRow (s : Nat → Nat → Bool) (y : Nat) : Nat → Nat
  | 0 => 0
  | x + 1 => cntRow s y x + (if alike s y x = true then 1 else 0)
def cnt (s : Nat → Nat → Bool) (m : Nat) : Nat → Nat
  | 0 => 0
  | y + 1 => cnt s m y + cntRow s y m
theorem cntRow_le (s : Nat → Nat → Bool) (y : Nat) : ∀ x, cntRow s y x ≤ x
  | 0 => Nat.le_refl _
  | x + 1 => by
    have := cntRow_le s y x
    unfold cntRow
    split <;> omega
theorem cnt_le (s : Nat → Nat → Bool) (m : Nat) : ∀ y, cnt s m y ≤ y * m
  | 0 => by simp [cnt]
  | y + 1 => by
    have := cnt_le s m y
    have := cntRow_le s y m
    unfold cnt
    rw [Nat.add_mul]; omega
/-- A copy so far: k rows, and x cells of the next. -/
def sqK2 (s : Nat → Nat → Bool) (k x r c : Nat) : Bool := (decide (r < k) || (decide (r = k) && decide (c < x))) && s r c
theorem cI_eq (a b : Bool) : ((cI a == cI b) = true ↔ a = b) := by cases a <;> cases b <;> simp [cI]

set_option maxRecDepth 100000 in
set_option maxHeartbeats 6400000 in
theorem rule2 (M B n : Nat) (s : Nat → Nat → Bool) (hn1 : 1 ≤ n) (hn : n ≤ 40) (w : World) (h : MatAt w M B n (fun r c => .int .i8 (cI (s r c)))) :
    Calls Try.prog 37 #[.pointer (some ⟨M, 0, none⟩)] w fun e w' => e = .returned (.int .i64 ((3 * cnt s (n - 1) (n - 1) : Nat) : Int)) ∧ w = w' := by
  have HA := Lib.hid (mat_array M B n _ w h)
  have HW := Lib.hid (mat_width M B n _ w h)
  have HH := Lib.hid (mat_height M B n _ w h)
  have HG := Lib.hid h.grid
  obtain ⟨m, hm⟩ : ∃ m, m = n - 1 := ⟨_, rfl⟩
  have em : (n : Int) - 1 = (m : Int) := by omega
  have hml : m ≤ 39 := by omega
  rw [← hm]
  have hmn : m + 1 = n := by omega
  have HMN := Lib.hid hmn
  clear h hm hmn
  go_enter Try.func37, Try.ntmps37
  go_wp2_with fail
  refine HA.out.mono ?_
  rintro e w1 ⟨rfl, rfl⟩
  go_wp2_with fail
  refine HW.out.mono ?_
  rintro e w1 ⟨rfl, rfl⟩
  go_wp2_with fail
  refine HH.out.mono ?_
  rintro e w1 ⟨rfl, rfl⟩
  go_wp2_with fail
  go_loop [3, 7] (fun p i => ∃ k : Nat, k ≤ m ∧ i = .int .i64 k ∧ p = .int .i64 (cnt s m k : Nat)) (fun _ i => m - (intOf i).toNat)
  case atStart => exact ⟨0, by omega, rfl, rfl⟩
  case round =>
    obtain ⟨k, hk, rfl, rfl⟩ := hrel
    by_cases hlt : k < m
    · have hlt1 : (k : Int) < (m : Int) := by omega
      have hkn : k < n := by have := HMN.out; omega
      have hkn2 : k + 1 < n := by have := HMN.out; omega
      have hk0 : (0 : Int) ≤ (k : Int) := by omega
      have hk1 : (k : Int) < (n : Int) := by omega
      have ch := HG.out.head k hkn hkn
      have HCN : Hid (cnt s m (k + 1) = cnt s m k + cntRow s k m) := Lib.hid rfl
      have hcl : cnt s m k ≤ 1600 := by
        have := cnt_le s m k
        have h2 : k * m ≤ 39 * 39 := Nat.mul_le_mul (by omega) (by omega)
        omega
      obtain ⟨q, hq⟩ : ∃ q, q = cnt s m k := ⟨_, rfl⟩
      rw [← hq] at HCN hcl ⊢
      clear hq
      go_wp2_with fail
      go_loop [3, 9] (fun p i => ∃ x : Nat, x ≤ m ∧ i = .int .i64 x ∧ p = .int .i64 ((q + cntRow s k x : Nat) : Int)) (fun _ i => m - (intOf i).toNat)
      case atStart => exact ⟨0, by omega, rfl, rfl⟩
      case round =>
        obtain ⟨x, hx, rfl, rfl⟩ := hrel
        clear ch
        by_cases hxl : x < m
        · have hxn : x < n := by have := HMN.out; omega
          have hxn2 : x + 1 < n := by have := HMN.out; omega
          have hx1 : (x : Int) < (m : Int) := by omega
          have hx0 : (0 : Int) ≤ (x : Int) := by omega
          have hx2 : (x : Int) < (n : Int) := by omega
          obtain ⟨x', hx'⟩ : ∃ x', x' = x + 1 := ⟨_, rfl⟩
          obtain ⟨k', hk'⟩ : ∃ k', k' = k + 1 := ⟨_, rfl⟩
          have ex : (x : Int) + 1 = (x' : Int) := by omega
          have ek : (k : Int) + 1 = (k' : Int) := by omega
          have hx3 : (x' : Int) < (n : Int) := by omega
          have hk3 : (k' : Int) < (n : Int) := by omega
          have hx4 : (0 : Int) ≤ (x' : Int) := by omega
          have hk4 : (0 : Int) ≤ (k' : Int) := by omega
          have c00 := HG.out.cell k x hkn hxn
          have c01 := HG.out.cell k (x + 1) hkn hxn2
          have c10 := HG.out.cell (k + 1) x hkn2 hxn
          have c11 := HG.out.cell (k + 1) (x + 1) hkn2 hxn2
          have ch2 := HG.out.head (k + 1) hkn2 hkn2
          rw [← hx'] at c01 c11
          rw [← hk'] at c10 c11 ch2
          have HCR : Hid (cntRow s k x' = cntRow s k x + (if alike s k x = true then 1 else 0)) := Lib.hid (by rw [hx']; rfl)
          have hrl := cntRow_le s k x
          have HAL : Hid (alike s k x = (decide (s k x = s k x') && (decide (s k x = s k' x) && decide (s k x = s k' x')))) := Lib.hid (by rw [hx', hk']; rfl)
          have i00 := cI_eq (s k x) (s k x')
          have i01 := cI_eq (s k x) (s k' x)
          have i11 := cI_eq (s k x) (s k' x')
          obtain ⟨v00, hv00⟩ : ∃ v, v = s k x := ⟨_, rfl⟩
          obtain ⟨v01, hv01⟩ : ∃ v, v = s k x' := ⟨_, rfl⟩
          obtain ⟨v10, hv10⟩ : ∃ v, v = s k' x := ⟨_, rfl⟩
          obtain ⟨v11, hv11⟩ : ∃ v, v = s k' x' := ⟨_, rfl⟩
          rw [← hv00, ← hv01] at i00
          rw [← hv00, ← hv10] at i01
          rw [← hv00, ← hv11] at i11
          rw [← hv00] at c00
          rw [← hv01] at c01
          rw [← hv10] at c10
          rw [← hv11] at c11
          rw [← hv00, ← hv01, ← hv10, ← hv11] at HAL
          have hd1 : (v00 = v01) ∨ ¬ (v00 = v01) := by exact Classical.em _
          obtain ⟨a00, ha00⟩ : ∃ a, a = cI v00 := ⟨_, rfl⟩
          obtain ⟨a01, ha01⟩ : ∃ a, a = cI v01 := ⟨_, rfl⟩
          obtain ⟨a10, ha10⟩ : ∃ a, a = cI v10 := ⟨_, rfl⟩
          obtain ⟨a11, ha11⟩ : ∃ a, a = cI v11 := ⟨_, rfl⟩
          rw [← ha00, ← ha01] at i00
          rw [← ha00, ← ha10] at i01
          rw [← ha00, ← ha11] at i11
          rw [← ha00] at c00
          rw [← ha01] at c01
          rw [← ha10] at c10
          rw [← ha11] at c11
          have HX : Hid (x' = x + 1) := Lib.hid hx'
          clear hx' hk' hv00 hv01 hv10 hv11 ha00 ha01 ha10 ha11 hd1
          by_cases d1 : v00 = v01
          · have b1 := i00.2 d1
            by_cases d2 : v00 = v10
            · have b2 := i01.2 d2
              by_cases d3 : v00 = v11
              · have b3 := i11.2 d3
                have HR : Hid (cntRow s k x' = cntRow s k x + 1) := Lib.hid (by rw [HCR.out, HAL.out, if_pos (by rw [decide_eq_true d1, decide_eq_true d2, decide_eq_true d3]; rfl)])
                clear i00 i01 i11 d1 d2 d3 HCR HAL
                go_wp2_with fail
                go_round
                case rel => exact ⟨x', by have := HX.out; omega, rfl, by rw [HR.out, ← Nat.add_assoc]; go_num⟩
                case measure => simp [intOf]; have := HX.out; omega
              · have b3 : (a00 == a11) = false := by cases hh : (a00 == a11); rfl; exact absurd (i11.1 hh) d3
                have HR : Hid (cntRow s k x' = cntRow s k x) := Lib.hid (by rw [HCR.out, HAL.out, if_neg (by simp [d3])]; rfl)
                clear i00 i01 i11 d1 d2 d3 HCR HAL
                go_wp2_with fail
                go_round
                case rel => exact ⟨x', by have := HX.out; omega, rfl, by rw [HR.out]⟩
                case measure => simp [intOf]; have := HX.out; omega
            · have b2 : (a00 == a10) = false := by cases hh : (a00 == a10); rfl; exact absurd (i01.1 hh) d2
              have HR : Hid (cntRow s k x' = cntRow s k x) := Lib.hid (by rw [HCR.out, HAL.out, if_neg (by simp [d2])]; rfl)
              clear i00 i01 i11 d1 d2 HCR HAL
              go_wp2_with fail
              go_round
              case rel => exact ⟨x', by have := HX.out; omega, rfl, by rw [HR.out]⟩
              case measure => simp [intOf]; have := HX.out; omega
          · have b1 : (a00 == a01) = false := by cases hh : (a00 == a01); rfl; exact absurd (i00.1 hh) d1
            have HR : Hid (cntRow s k x' = cntRow s k x) := Lib.hid (by rw [HCR.out, HAL.out, if_neg (by simp [d1])]; rfl)
            clear i00 i01 i11 d1 HCR HAL
            go_wp2_with fail
            go_round
            case rel => exact ⟨x', by have := HX.out; omega, rfl, by rw [HR.out]⟩
            case measure => simp [intOf]; have := HX.out; omega
        · obtain rfl : x = m := by omega
          have hx1 : ((x : Int) < (x : Int)) = False := by simp
          go_wp2_with fail
          go_round
          case rel => exact ⟨k + 1, by omega, by go_num, by rw [HCN.out]⟩
          case measure => simp [intOf]; omega
    · obtain rfl : k = m := by omega
      have hcl : cnt s k k ≤ 1600 := by
        have := cnt_le s k k
        have h2 : k * k ≤ 39 * 39 := Nat.mul_le_mul (by omega) (by omega)
        omega
      obtain ⟨q, hq⟩ : ∃ q, q = cnt s k k := ⟨_, rfl⟩
      rw [← hq] at hcl ⊢
      have hx1 : ((k : Int) < (k : Int)) = False := by simp
      have HQ := Lib.hid hq
      clear hq hlt
      go_wp2_with fail
      go_ret
      exact ⟨by rw [HQ.out]; simp, rfl⟩

set_option maxRecDepth 100000 in
set_option maxHeartbeats 3200000 in
theorem qrPenalty (G n : Nat) (s : Nat → Nat → Bool) (hn1 : 1 ≤ n) (hn : n ≤ 40) (w : World) (h : Grid w 62 42 G n n n (fun r c => .int .i8 (cI (s r c)))) (hG : G + n < w.heap.size) :
    Calls Try.prog 14 #[.int .i64 2, .slice (some ⟨G, 0, none⟩) n n] w fun e w' => e = .returned (.int .i64 ((3 * cnt s (n - 1) (n - 1) : Nat) : Int)) ∧ Below w.heap.size w w' := by
  have HG := Lib.hid h
  have c0 := h.head 0 (by omega) (by omega)
  have HNW := Lib.hid (mat_new n (by omega) w)
  have hn0 : (0 : Int) < (n : Int) := by omega
  obtain ⟨r, hr⟩ : ∃ r, r = 3 * cnt s (n - 1) (n - 1) := ⟨_, rfl⟩
  rw [← hr]
  have HRV := Lib.hid hr
  clear h hr
  go_enter Try.func14, Try.ntmps14
  go_wp2_with fail
  refine HNW.out.mono ?_
  rintro e w1 ⟨M, B, rfl, hm, hB, hb1⟩
  have HM := Lib.hid hm
  have HB1 := Lib.hid hb1
  clear hm hb1 c0 HNW
  go_wp2_with fail
  obtain ⟨W4, hW4⟩ : ∃ W4, W4 = w1 := ⟨_, rfl⟩
  rw [← hW4] at HM HB1 ⊢
  clear hW4
  go_loopw [24] (fun i wr => ∃ k : Nat, k ≤ n ∧ i = .int .i64 k ∧ Hid (MatAt wr M B n (fun r c => .int .i8 (cI (sqK s k 0 r c)))) ∧ Hid (Below w.heap.size w wr)) (fun i _ => n - (intOf i).toNat)
  case atStart => exact ⟨0, by omega, rfl, Lib.hid (by have := HM.out; exact ⟨this.obj, this.grid.congr (fun r c _ _ => by simp [sqK, cI]), this.lt⟩), HB1⟩
  case round =>
    obtain ⟨k, hk, rfl, HM2, HB2⟩ := hrel
    clear HM HB1
    by_cases hlt : k < n
    · have hk0 : (0 : Int) ≤ (k : Int) := by omega
      have hk1 : (k : Int) < (n : Int) := by omega
      have ch := (HG.out.below HB2.out).head k hlt hlt
      go_wp2_with fail
      obtain ⟨W5, hW5⟩ : ∃ W5, W5 = wr := ⟨_, rfl⟩
      rw [← hW5] at HM2 HB2 ⊢
      clear hW5 ch
      go_loopw [31] (fun i wr => ∃ x : Nat, x ≤ n ∧ i = .int .i64 x ∧ Hid (MatAt wr M B n (fun r c => .int .i8 (cI (sqK2 s k x r c)))) ∧ Hid (Below w.heap.size w wr)) (fun i _ => n - (intOf i).toNat)
      case atStart => exact ⟨0, by omega, rfl, Lib.hid (by have := HM2.out; exact ⟨this.obj, this.grid.congr (fun r c _ _ => by simp [sqK, sqK2]), this.lt⟩), HB2⟩
      case round =>
        obtain ⟨x, hx, rfl, HM3, HB3⟩ := hrel
        clear HM2 HB2
        by_cases hxl : x < n
        · have hx0 : (0 : Int) ≤ (x : Int) := by omega
          have hx1 : (x : Int) < (n : Int) := by omega
          have cz := (HG.out.below HB3.out).cell k x hlt hxl
          have HST := Lib.hid (mat_set M B n x k (.int .i8 (cI (s k x))) rfl _ hxl hlt (by omega) _ rfl wr HM3.out)
          have HM6 := Lib.hid (HM3.out.set_ (g := fun r c => .int .i8 (cI (sqK2 s k (x + 1) r c))) k x hlt (.int .i8 (cI (s k x))) (fun r' c' hr' hc' => by
            by_cases e : r' = k ∧ c' = x
            · obtain ⟨rfl, rfl⟩ := e
              simp [sqK2]
            · rw [if_neg e]
              have : sqK2 s k (x + 1) r' c' = sqK2 s k x r' c' := by
                simp only [sqK2]
                congr 1
                by_cases h1 : r' = k
                · have h3 : c' ≠ x := fun h => e ⟨h1, h⟩
                  have h4 : (c' < x + 1) ↔ (c' < x) := by omega
                  simp [h4]
                · simp [h1]
              rw [this]))
          have HB6 := Lib.hid (HB3.out.setCell (p := ⟨B + 1 + k, x, none⟩) (by dsimp only; omega) (.int .i8 (cI (s k x))))
          obtain ⟨a, ha⟩ : ∃ a, a = cI (s k x) := ⟨_, rfl⟩
          rw [← ha] at cz HST HM6 HB6
          clear ha HM3 HB3
          go_wp2_with fail
          refine HST.out.mono ?_
          rintro e w3 ⟨rfl, rfl⟩
          go_wp2_with fail
          go_roundw
          case rel => exact ⟨x + 1, by omega, by go_num, HM6, HB6⟩
          case measure => simp [intOf]; omega
        · obtain rfl : x = n := by omega
          have hx1 : ((x : Int) < (x : Int)) = False := by simp
          have HM6 : Hid (MatAt wr M B x (fun r c => .int .i8 (cI (sqK s (k + 1) 0 r c)))) := Lib.hid (by
            have := HM3.out
            refine ⟨this.obj, this.grid.congr (fun r c hr hc => ?_), this.lt⟩
            have h1 : (r < k + 1) ↔ (r < k ∨ r = k) := by omega
            simp only [sqK, sqK2]
            by_cases h2 : r < k
            · simp [h2, h1]
            · by_cases h3 : r = k
              · simp [h3, hc]
              · simp [h2, h3, h1])
          clear HM3
          go_wp2_with fail
          go_roundw
          case rel => exact ⟨k + 1, by omega, by go_num, HM6, HB3⟩
          case measure => simp [intOf]; omega
    · obtain rfl : k = n := by omega
      have hx1 : ((k : Int) < (k : Int)) = False := by simp
      have HR2 := Lib.hid (rule2 M B k s hn1 hn wr (by have := HM2.out; exact ⟨this.obj, this.grid.congr (fun r c hr hc => by simp [sqK, hr]), this.lt⟩))
      rw [← HRV.out] at HR2
      clear hlt HM2
      go_wp2_with fail
      refine HR2.out.mono ?_
      rintro e w3 ⟨rfl, rfl⟩
      go_wp2_with fail
      go_ret
      exact ⟨rfl, HB2.out⟩
end Go.Proofs.Ytpeipolknphjhaa
