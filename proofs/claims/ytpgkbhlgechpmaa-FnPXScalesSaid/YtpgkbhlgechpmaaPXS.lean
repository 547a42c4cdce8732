/-
  BlackPoint, pxBuckets, pxWide and the statement FnPXScales, walked. No condition.
-/
import Derived.Test.YtpgkbhlgechpmaaPXB
namespace Go.Proofs.Ytpgkbhlgechpmaa
open Go.RowKit Go.Qz Go.Qz.PX
set_option linter.unusedVariables false

set_option maxRecDepth 100000 in
set_option maxHeartbeats 1600000 in
theorem estimateDoor (b : Nat → Nat) (hb : ∀ x, x < 32 → b x ≤ 16776960) (A : Option Addr) (c : Nat) (w : World) (h : Rd w A 32 (fun j => .int .i64 (b j : Nat))) :
    Calls Try.prog 38 #[.slice A 32 c] w (EstPost b w) := by
  have hb1 : Below w.heap.size w (w.alloc (.cells #[.nilIface, .slice none 0 0, .slice none 0 0] 81)) := (Below.refl _ _).alloc (Nat.le_refl _) _
  have HE := Lib.hid (estimate b hb (.pointer (some ⟨w.heap.size, 0, none⟩)) A c (w.alloc (.cells #[.nilIface, .slice none 0 0, .slice none 0 0] 81)) (h.alloc _))
  clear hb h
  go_enter Try.func38, Try.ntmps38
  go_wp2_with fail
  refine HE.out.mono ?_
  rintro e w2 ⟨hb2, ⟨hi, rfl⟩ | ⟨hi, x, rfl⟩⟩
  · have HBEL := Lib.hid (hb1.trans (hb2.mono (by simp)))
    have HI := Lib.hid hi
    clear hi hb2 hb1
    go_wp2_with fail
    go_ret2
    exact ⟨HBEL.out, .inl ⟨HI.out, rfl⟩⟩
  · have HBEL := Lib.hid (hb1.trans (hb2.mono (by simp)))
    have HI := Lib.hid hi
    clear hi hb2 hb1
    go_wp2_with fail
    go_ret2
    exact ⟨HBEL.out, .inr ⟨HI.out, x, rfl⟩⟩

set_option maxRecDepth 100000 in
set_option maxHeartbeats 1600000 in
theorem blackPoint (b : Nat → Nat) (hb : ∀ x, x < 32 → b x ≤ 16776960) (A : Option Addr) (n c : Nat) (hn : n = 32) (w : World) (h : Rd w A n (fun j => .int .i64 (b j : Nat))) :
    Calls Try.prog 23 #[.slice A n c] w fun e w' => ∃ (r : Int) (f : Bool), e = .returned (.tuple #[.int .i64 r, .bool f]) ∧ f = isB b ∧ (f = true → r = (bound b : Nat) * 8) ∧ Below w.heap.size w w' := by
  have HB := Lib.hid hb
  have HN := Lib.hid hn
  have hn2 : n < 1000 := by omega
  clear hb hn
  go_enter Try.func23, Try.ntmps23
  go_wp2_with (at_builtin; refine wpList_copyTo _ _ 28 w.heap.size 3 (.int .i64 0) 8 _ 0 [] _ _ _ _ rfl rfl rfl rfl Try.underlying28 Try.infoInt rfl (fun j _ => rfl) (by decide) (World.ownsRow_nil _ _ _ _) h (by omega) (Nat.le_refl _) ?_)
  intro v' w1 hown hg hbel
  obtain ⟨A', c', rfl, hnc, hcm, hrd⟩ := Rd.of_own hown
  have hn := HN.out
  subst hn
  have hrd2 : Rd w1 A' 32 (fun j => .int .i64 (b j : Nat)) := by
    refine Rd.congr hrd fun j hj => ?_
    rw [List.getD_eq_getElem?_getD, List.getElem?_map, List.getElem?_range hj]; rfl
  have HE := Lib.hid (estimateDoor b HB.out A' c' w1 hrd2)
  clear hown hg hrd hrd2 h hnc hcm
  have hb1 := hbel
  have heqn : ∀ W, (binOp .eql 84 .nilIface .nilIface).run Try.prog W = .ok (.bool true) W := fun W => rfl
  have heqe : ∀ W, (binOp .eql 62 .nilIface .nilIface).run Try.prog W = .ok (.bool true) W := fun W => rfl
  clear hbel HB HN hn2
  go_wp2_with fail
  refine HE.out.mono ?_
  rintro e w2 ⟨hb2, ⟨hi, rfl⟩ | ⟨hi, x, rfl⟩⟩
  · have HBEL := Lib.hid (hb1.trans (hb2.mono hb1.size))
    have HI := Lib.hid hi
    clear hi hb2 hb1
    go_wp2_with fail
    go_quiet (fail)
    go_wp2_with fail
    go_ret2
    exact ⟨_, _, rfl, HI.out.symm, fun _ => rfl, below_drewN HBEL.out _⟩
  · have HBEL := Lib.hid (hb1.trans (hb2.mono hb1.size))
    have HI := Lib.hid hi
    have heqx : ∀ W, (binOp .eql 62 (.iface 104 x) .nilIface).run Try.prog W = .ok (.bool false) W := fun W => run_eql_held_nil W _ _ _ errIface
    clear hi hb2 hb1
    go_wp2_with fail
    go_quiet (fail)
    go_wp2_with fail
    go_ret2
    exact ⟨_, _, rfl, HI.out.symm, fun h => by simp at h, below_drewN HBEL.out _⟩

/-- A list that is made from the front. -/
def upTo (n : Nat) (g : Nat → Nat) (i : Nat) : List Nat := (List.range n).map fun j => if j < i then g j else 0
theorem upTo_length (n : Nat) (g : Nat → Nat) (i : Nat) : (upTo n g i).length = n := by simp [upTo]
theorem upTo_nth (n : Nat) (g : Nat → Nat) (i j : Nat) (hj : j < n) : nth (upTo n g i) j = if j < i then g j else 0 := nth_map_range _ _ _ hj
theorem upTo_zero (n : Nat) (g : Nat → Nat) : upTo n g 0 = List.replicate n 0 := by
  apply List.ext_getElem?
  intro i
  by_cases hl : i < n
  · simp [upTo, hl]
  · rw [List.getElem?_eq_none (by simpa [upTo] using hl), List.getElem?_eq_none (by simpa using hl)]
theorem upTo_set (n : Nat) (g : Nat → Nat) (i : Nat) : (upTo n g i).set i (g i) = upTo n g (i + 1) := by
  apply List.ext_getElem?
  intro j
  rw [List.getElem?_set]
  by_cases h : j = i
  · subst h
    by_cases hl : j < n <;> simp [upTo, hl]
  · rw [if_neg (fun e => h e.symm)]
    by_cases hl : j < n
    · simp only [upTo, List.getElem?_map, List.getElem?_range hl, Option.map_some]
      by_cases hk : j < i
      · simp [hk, show j < i + 1 by omega]
      · simp [hk, show ¬ j < i + 1 by omega]
    · rw [List.getElem?_eq_none (by simpa [upTo] using hl), List.getElem?_eq_none (by simpa [upTo] using hl)]
theorem upTo_rd {w : World} {b n i : Nat} {g : Nat → Nat} (h : IA w 3 b (upTo n g i)) (hi : n ≤ i) : Rd w (some ⟨b, 0, none⟩) n (fun j => .int .i64 (g j : Nat)) := by
  have h2 := h.rd
  rw [upTo_length] at h2
  exact h2.congr fun j hj => by rw [upTo_nth _ _ _ _ hj, if_pos (by omega)]
theorem upTo_full {w : World} {b n i : Nat} {g : Nat → Nat} (h : IA w 3 b (upTo n g i)) (hg : ∀ j, i ≤ j → g j = 0) : Rd w (some ⟨b, 0, none⟩) n (fun j => .int .i64 (g j : Nat)) := by
  have h2 := h.rd
  rw [upTo_length] at h2
  exact h2.congr fun j hj => by
    rw [upTo_nth _ _ _ _ hj]
    split
    · rfl
    · rw [hg j (by omega)]

theorem cnt_ext (b : Nat → Nat) {k : Nat} (h : ∀ j, k ≤ j → b j = 0) : ∀ m, k ≤ m → cnt b m = cnt b k
  | 0, hm => by have : k = 0 := by omega
                rw [this]
  | m + 1, hm => by
    by_cases e : k = m + 1
    · rw [e]
    · simp only [cnt]
      rw [if_neg (by rw [h m (by omega)]; omega)]
      exact cnt_ext b h m (by omega)
/-- The counts: numbers from 0 to 65535, 0 behind the last. -/
def cts (z : Nat → Int) (n : Nat) (j : Nat) : Nat := if j < min 32 n then (z j).toNat else 0

set_option maxRecDepth 100000 in
set_option maxHeartbeats 1600000 in
theorem pxBuckets (z : Nat → Int) (A : Option Addr) (n c : Nat) (hn : n < 4294967296) (hz : ∀ j, j < n → 0 ≤ z j ∧ z j ≤ 65535) (w : World) (h : Rd w A n (fun j => .int .u16 (z j))) :
    Calls Try.prog 22 #[.slice A n c] w fun e w' => ∃ g s : Nat, e = .returned (.tuple #[.slice (some ⟨g, 0, none⟩) 32 32, .int .i64 s]) ∧ s = cnt (cts z n) 32 ∧ Hid (Rd w' (some ⟨g, 0, none⟩) 32 (fun j => .int .i64 (cts z n j : Nat))) ∧ Below w.heap.size w w' := by
  have HZ := Lib.hid hz
  have HR := Lib.hid h
  clear hz h
  obtain ⟨N, hN⟩ : ∃ N, N = 32 := ⟨_, rfl⟩
  have hI := IA.zeros w 3 N
  rw [← upTo_zero N (cts z n), hN] at hI
  have hb0 : Below w.heap.size w (w.alloc (.cells (zeros 32 (.int .i64 0)) 3)) := (Below.refl _ _).alloc (Nat.le_refl _) _
  have hmk := fun W => run_make1 (P := Try.prog) 28 3 (.int .i64 0) 8 Try.underlying28 Try.infoInt rfl (by decide) 32 (by omega) .i64 .i64 32 rfl W
  go_enter Try.func22, Try.ntmps22
  go_wp2_with fail
  obtain ⟨M, hM⟩ : ∃ M, M = w.heap.size := ⟨_, rfl⟩
  rw [← hM] at hI hb0 ⊢
  have HMM := Lib.hid hM
  clear hM hmk hN
  go_loopw [5, 6] (fun s i wr => ∃ k S : Nat, k ≤ 32 ∧ k ≤ n ∧ S ≤ k ∧ s = .int .i64 S ∧ i = .int .i64 k ∧ Hid (S = cnt (cts z n) k) ∧ IA wr 3 M (upTo 32 (cts z n) k) ∧ Below M w wr) (fun _ i _ => 32 - (intOf i).toNat)
  case atStart => exact ⟨0, 0, by omega, by omega, by omega, rfl, rfl, Lib.hid rfl, hI, hb0⟩
  case round =>
    obtain ⟨k, S, hk, hkn, hSk, rfl, rfl, HS, hI2, hB2⟩ := hrel
    clear hI hb0
    by_cases hlt : k < 32
    · by_cases hltn : k < n
      · obtain ⟨b, off, rfl, hb, hc⟩ := HR.out (by omega)
        have hck := (hB2.cell (p := ⟨b, off + k, none⟩) (by rw [HMM.out]; exact hb)).trans (hc k hltn)
        dsimp only at hck
        have hzk := HZ.out k hltn
        obtain ⟨x, hx⟩ : ∃ x, x = cts z n k := ⟨_, rfl⟩
        have hx2 : z k = (x : Int) := by rw [hx]; unfold cts; rw [if_pos (by omega)]; omega
        rw [hx2] at hck hzk
        have hul := upTo_length 32 (cts z n) k
        have hz0 := hI2.cell (j := k) (by omega)
        rw [upTo_nth _ _ _ _ hlt, if_neg (by omega)] at hz0
        have hf := hI2.free k
        have hI3 := hI2.set_ k x
        rw [hx, upTo_set, ← hx] at hI3
        have hB3 := hB2.setCell (p := ⟨M, k, none⟩) (Nat.le_refl _) (.int .i64 (x : Nat))
        have hk0 : (0 : Int) ≤ (k : Int) := by omega
        have hk1 : (k : Int) < 32 := by omega
        have hk2 : (k : Int) < (n : Int) := by omega
        have hck2 : (wr.setCell ⟨M, k, none⟩ (.int .i64 (x : Nat))).cell? ⟨b, off + k, none⟩ = some (.int .u16 (x : Int)) := (hB3.cell (p := ⟨b, off + k, none⟩) (by rw [HMM.out]; exact hb)).trans ((hB2.cell (p := ⟨b, off + k, none⟩) (by rw [HMM.out]; exact hb)).symm.trans hck)
        obtain ⟨hx3, hx4⟩ := hzk
        have HI3 := Lib.hid hI3
        have HB3 := Lib.hid hB3
        by_cases hp : 0 < x
        · have hS : Hid (S + 1 = cnt (cts z n) (k + 1)) := Lib.hid (by simp only [cnt]; rw [← hx, if_pos hp, HS.out])
          have hp1 : (0 : Int) < (x : Int) := by omega
          clear hx hx2 hI2 hB2 hI3 hB3 hul hc HS
          go_wp2_with fail
          go_roundw
          case rel => exact ⟨k + 1, S + 1, by omega, by omega, by omega, by go_num, by go_num, hS, HI3.out, HB3.out⟩
          case measure => simp [intOf]; omega
        · have hS : Hid (S = cnt (cts z n) (k + 1)) := Lib.hid (by simp only [cnt]; rw [← hx, if_neg hp, HS.out])
          have hp1 : decide ((0 : Int) < (x : Int)) = false := by simp; omega
          have hp2 : decide (0 < x) = false := by simp; omega
          have hp3 : (x : Int) ≤ 0 := by omega
          clear hx hx2 hI2 hB2 hI3 hB3 hul hc HS hp
          go_wp2_with fail
          go_roundw
          case rel => exact ⟨k + 1, S, by omega, by omega, by omega, rfl, by go_num, hS, HI3.out, HB3.out⟩
          case measure => simp [intOf]; omega
      · obtain rfl : k = n := by omega
        have hk1 : (k : Int) < 32 := by omega
        have HI2 := Lib.hid (upTo_full hI2 (fun j hj => by unfold cts; rw [if_neg (by omega)]))
        have hS : Hid (S = cnt (cts z k) 32) := Lib.hid (by rw [HS.out]; exact (cnt_ext _ (fun j hj => by unfold cts; rw [if_neg (by omega)]) 32 hk).symm)
        clear hI2 HS
        go_wp2_with fail
        go_ret2
        exact ⟨M, S, rfl, hS.out, HI2, by rw [← HMM.out]; exact hB2⟩
    · obtain rfl : k = 32 := by omega
      have HI2 := Lib.hid (upTo_rd hI2 (Nat.le_refl _))
      clear hI2
      go_wp2_with fail
      go_ret2
      exact ⟨M, S, rfl, HS.out, HI2, by rw [← HMM.out]; exact hB2⟩

def WidePost (b : Nat → Nat) (e : Ending) : Prop := ∃ f : Bool, e = .returned (.bool f) ∧ (f = true → (fl b 32).1 + 2 < (fl b 32).2)

set_option maxRecDepth 100000 in
set_option maxHeartbeats 1600000 in
theorem pxWide (b : Nat → Nat) (A : Option Addr) (c : Nat) (w : World) (h : Rd w A 32 (fun j => .int .i64 (b j : Nat))) :
    Calls Try.prog 24 #[.slice A 32 c] w fun e w' => WidePost b e ∧ w = w' := by
  obtain ⟨ab, ao, rfl, hal, hac⟩ := h (by omega)
  dsimp only at hac
  have HC := Lib.hid hac
  clear h hac
  have h0 : Hid (fl b 0 = (32, 0)) := Lib.hid rfl
  go_enter Try.func24, Try.ntmps24
  go_wp2_with fail
  go_loop [3, 4, 5] (fun f l i => ∃ k P L : Nat, k ≤ 32 ∧ P ≤ 32 ∧ L ≤ 32 ∧ i = .int .i64 k ∧ f = .int .i64 P ∧ l = .int .i64 L ∧ Hid (fl b k = (P, L))) (fun _ _ i => 32 - (intOf i).toNat)
  case atStart => exact ⟨0, 32, 0, by omega, by omega, by omega, rfl, rfl, rfl, h0⟩
  case round =>
    obtain ⟨k, P, L, hk, hP, hL, rfl, rfl, rfl, HF⟩ := hrel
    clear h0
    by_cases hlt : k < 32
    · have hck := HC.out k hlt
      obtain ⟨y, hy⟩ : ∃ y, y = b k := ⟨_, rfl⟩
      rw [← hy] at hck
      by_cases hp : 0 < y
      · by_cases hPk : P ≤ k
        · have HN : Hid (fl b (k + 1) = (P, k)) := Lib.hid (by simp only [fl]; rw [← hy, if_pos hp, HF.out]; dsimp only; rw [Nat.min_eq_left hPk])
          have hmin : min (P : Int) (k : Int) = (P : Int) := by omega
          have hmin2 : min P k = P := by omega
          have hp1 : (0 : Int) < (y : Int) := by omega
          have hPk1 : (P : Int) ≤ (k : Int) := by omega
          clear hy HF
          go_wp2_with fail
          go_round
          case rel => exact ⟨k + 1, P, k, by omega, by omega, by omega, by go_num, by first | rfl | (congr 1), rfl, HN⟩
          case measure => simp [intOf]; omega
        · have HN : Hid (fl b (k + 1) = (k, k)) := Lib.hid (by simp only [fl]; rw [← hy, if_pos hp, HF.out]; dsimp only; rw [Nat.min_eq_right (by omega)])
          have hmin : min (P : Int) (k : Int) = (k : Int) := by omega
          have hmin2 : min P k = k := by omega
          have hp1 : (0 : Int) < (y : Int) := by omega
          have hPk1 : (k : Int) < (P : Int) := by omega
          clear hy HF
          go_wp2_with fail
          go_round
          case rel => exact ⟨k + 1, k, k, by omega, by omega, by omega, by go_num, by first | rfl | (congr 1), rfl, HN⟩
          case measure => simp [intOf]; omega
      · have HN : Hid (fl b (k + 1) = (P, L)) := Lib.hid (by simp only [fl]; rw [← hy, if_neg hp, HF.out])
        have hp1 : decide ((0 : Int) < (y : Int)) = false := by simp; omega
        have hp2 : decide (0 < y) = false := by simp; omega
        have hp3 : (y : Int) ≤ 0 := by omega
        clear hy HF
        go_wp2_with fail
        go_round
        case rel => exact ⟨k + 1, P, L, by omega, by omega, by omega, by go_num, rfl, rfl, HN⟩
        case measure => simp [intOf]; omega
    · obtain rfl : k = 32 := by omega
      by_cases hw : P + 2 < L
      · have hw1 : (2 : Int) < (L : Int) - (P : Int) := by omega
        go_wp2_with fail
        go_ret
        exact ⟨⟨true, rfl, fun _ => by rw [HF.out]; exact hw⟩, rfl⟩
      · have hw1 : decide ((2 : Int) < (L : Int) - (P : Int)) = false := by simp; omega
        have hw2 : (L : Int) - (P : Int) ≤ 2 := by omega
        go_wp2_with fail
        go_ret
        exact ⟨⟨false, rfl, fun h => by simp at h⟩, rfl⟩

set_option maxRecDepth 100000 in
set_option maxHeartbeats 1600000 in
theorem fnPXScales (w : World) (A : Option Addr) (n c : Nat) (z : Nat → Int) (hnc : n ≤ c) (hcm : c ≤ maxLen) (hz : ∀ j, j < n → (Lit.int .u16 (z j)).wf = true) (h : Rd w A n (fun j => .int .u16 (z j))) (a : Int) (ha : (Lit.int .u8 a).wf = true) :
    Calls Try.prog 7 #[.slice A n c, .int .u8 a] w fun e w' => e = .returned (.bool true) ∧ Below w.heap.size w w' := by
  obtain ⟨a0, a1⟩ := bd_u8 ha
  have HZ := Lib.hid (fun j hj => bd_u16 (hz j hj))
  have HR := Lib.hid h
  clear hz ha h
  by_cases hbig : (2147483647 : Int) < n
  · go_enter Try.func7, Try.ntmps7
    go_wp2_with fail
    go_ret
    exact ⟨rfl, Below.refl _ _⟩
  obtain ⟨y, rfl⟩ : ∃ y : Nat, a = y := ⟨a.toNat, by omega⟩
  have hn : n < 2147483648 := by omega
  have hy : y ≤ 255 := by omega
  obtain ⟨b, hb⟩ : ∃ b, b = cts z n := ⟨_, rfl⟩
  have hbl : ∀ j, b j ≤ 65535 := fun j => by
    rw [hb]; unfold cts
    split
    · have := HZ.out j (by omega); omega
    · omega
  have HBL := Lib.hid hbl
  have HPB := Lib.hid (fun W hW => pxBuckets z A n c (by omega) HZ.out W hW)
  rw [← hb] at HPB
  clear hb hbl
  go_enter Try.func7, Try.ntmps7
  go_wp2_with fail
  refine (HPB.out w HR.out).mono ?_
  rintro e w1 ⟨g, s, rfl, hs, hrd, hb1⟩
  have HS := Lib.hid hs
  clear hs HPB
  obtain ⟨N, hN⟩ : ∃ N, N = 32 := ⟨_, rfl⟩
  have hI := IA.zeros w1 3 N
  rw [← upTo_zero N (fun j => b j * (1 + y)), hN] at hI
  have hb2 : Below w.heap.size w (w1.alloc (.cells (zeros 32 (.int .i64 0)) 3)) := hb1.alloc hb1.size _
  have hmk := fun W => run_make1 (P := Try.prog) 28 3 (.int .i64 0) 8 Try.underlying28 Try.infoInt rfl (by decide) 32 (by omega) .i64 .i64 32 rfl W
  have hb3 : Below w1.heap.size w1 (w1.alloc (.cells (zeros 32 (.int .i64 0)) 3)) := (Below.refl _ _).alloc (Nat.le_refl _) _
  obtain ⟨b', hb'⟩ : ∃ b' : Nat → Nat, b' = fun j => b j * (1 + y) := ⟨_, rfl⟩
  rw [← hb'] at hI
  have HB' := Lib.hid hb'
  clear hb' hN
  go_wp2_with fail
  obtain ⟨M, hM⟩ : ∃ M, M = w1.heap.size := ⟨_, rfl⟩
  rw [← hM] at hI hb3 ⊢
  have HMM := Lib.hid hM
  have HB2 := Lib.hid hb2
  clear hM hmk hb2
  go_loopw [8] (fun i wr => ∃ k : Nat, k ≤ 32 ∧ i = .int .i64 k ∧ IA wr 3 M (upTo 32 b' k) ∧ Below M w1 wr) (fun i _ => 32 - (intOf i).toNat)
  case atStart => exact ⟨0, by omega, rfl, hI, hb3⟩
  case round =>
    obtain ⟨k, hk, rfl, hI2, hB3⟩ := hrel
    clear hI hb3
    have hrd2 : Rd wr (some ⟨g, 0, none⟩) 32 (fun j => .int .i64 (b j : Nat)) := hrd.out.below (by rw [← HMM.out]; exact hB3)
    by_cases hlt : k < 32
    · obtain ⟨b0, off, e0, hb0, hc⟩ := hrd2 (by omega)
      injection e0 with e0
      injection e0 with e0 e1 _
      subst e0 e1
      have hck := hc k hlt
      dsimp only at hck
      rw [Nat.zero_add] at hck
      obtain ⟨x, hx⟩ : ∃ x, x = b k := ⟨_, rfl⟩
      have hxl := HBL.out k
      rw [← hx] at hck hxl
      have hul := upTo_length 32 b' k
      have hz0 := hI2.cell (j := k) (by omega)
      rw [upTo_nth _ _ _ _ hlt, if_neg (by omega)] at hz0
      have hf := hI2.free k
      have hI3 := hI2.set_ k (b' k)
      rw [upTo_set] at hI3
      obtain ⟨m, hm⟩ : ∃ m, m = b' k := ⟨_, rfl⟩
      have hm2 : m = x * (1 + y) := by rw [hm, HB'.out, hx]
      have hm3 : (x : Int) * (1 + (y : Int)) = (m : Int) := by rw [hm2]; simp
      have hml : m ≤ 65535 * 256 := by rw [hm2]; exact Nat.mul_le_mul (by omega) (by omega)
      have hw : IntKind.i64.wrap (m : Int) = (m : Int) := by rw [IntKind.wrap_i64]; omega
      rw [← hm] at hI3
      have hB4 := hB3.setCell (p := ⟨M, k, none⟩) (Nat.le_refl _) (.int .i64 (m : Nat))
      have hk0 : (0 : Int) ≤ (k : Int) := by omega
      have hk1 : (k : Int) < 32 := by omega
      have HI3 := Lib.hid hI3
      have HB4 := Lib.hid hB4
      clear hx hm hm2 hI2 hB3 hI3 hB4 hul hc hrd2
      go_wp2_with fail
      go_roundw
      case rel => exact ⟨k + 1, by omega, by go_num, HI3.out, HB4.out⟩
      case measure => simp [intOf]; omega
    · obtain rfl : k = 32 := by omega
      have hrd3 := upTo_rd hI2 (Nat.le_refl 32)
      have hbelw : Below w.heap.size w wr := hb1.trans ((show Below w1.heap.size w1 wr by rw [← HMM.out]; exact hB3).mono hb1.size)
      have hsc := isB_scale b (c := 1 + y) (by omega)
      rw [← HB'.out] at hsc
      have HSC := Lib.hid hsc
      have HBP1 := Lib.hid (blackPoint b (fun x _ => by have := HBL.out x; omega) (some ⟨g, 0, none⟩) 32 32 rfl wr hrd2)
      have HBP2 := Lib.hid (fun W hW => blackPoint b' (fun x _ => by rw [HB'.out]; have := Nat.mul_le_mul (HBL.out x) (show 1 + y ≤ 256 by omega); exact this) (some ⟨M, 0, none⟩) 32 32 rfl W hW)
      have HR1 := Lib.hid hrd2
      have HR2 := Lib.hid hrd3
      have HBW := Lib.hid hbelw
      clear hI2 hB3 hrd3 hrd2 hbelw hsc
      go_wp2_with fail
      refine HBP1.out.mono ?_
      rintro e w2 ⟨r1, f1, rfl, hf1, hr1, hb2⟩
      have HBW2 := Lib.hid (HBW.out.trans (hb2.mono HBW.out.size))
      have HR1' := Lib.hid (HR1.out.below hb2)
      have HBP2' := Lib.hid (HBP2.out w2 (HR2.out.below hb2))
      have HF1 := Lib.hid hf1
      have HRR1 := Lib.hid hr1
      clear hf1 hr1 hb2 HBP1 HBP2 HBW
      go_wp2_with fail
      refine HBP2'.out.mono ?_
      rintro e w3 ⟨r2, f2, rfl, hf2, hr2, hb3⟩
      have HBW3 := Lib.hid (HBW2.out.trans (hb3.mono HBW2.out.size))
      have HPW := Lib.hid (pxWide b (some ⟨g, 0, none⟩) 32 w3 (HR1'.out.below hb3))
      have hff : f2 = f1 := by rw [hf2, HF1.out]; exact HSC.out.1
      subst hff
      have HRR2 := Lib.hid hr2
      clear hf2 hr2 hb3 HBP2' HBW2 hlt
      cases f2 with
      | true =>
        have hrr : r2 = r1 := by rw [HRR1.out rfl, HRR2.out rfl, HSC.out.2 HF1.out.symm]
        subst hrr
        by_cases hs2 : s = 2
        · subst hs2
          go_wp2_with fail
          refine HPW.out.mono ?_
          rintro e w4 ⟨⟨f, rfl, _⟩, rfl⟩
          cases f <;>
          · go_wp2_with fail
            go_ret
            exact ⟨rfl, HBW3.out⟩
        · have hs3 : ((s : Int) == 2) = false := by simp; omega
          go_wp2_with fail
          go_ret
          exact ⟨rfl, HBW3.out⟩
      | false =>
        by_cases hs2 : s = 2
        · have hnw : ¬ (fl b 32).1 + 2 < (fl b 32).2 := fun hw => by
            have := wide_isB b (by rw [← HS.out]; exact hs2) hw
            rw [← HF1.out] at this; cases this
          have HNW := Lib.hid hnw
          subst hs2
          clear hnw
          go_wp2_with fail
          refine HPW.out.mono ?_
          rintro e w4 ⟨⟨f, rfl, hf⟩, rfl⟩
          have hff : f = false := by cases f with
            | true => exact absurd (hf rfl) HNW.out
            | false => rfl
          subst hff
          clear hf
          go_wp2_with fail
          go_ret
          exact ⟨rfl, HBW3.out⟩
        · have hs3 : ((s : Int) == 2) = false := by simp; omega
          go_wp2_with fail
          go_ret
          exact ⟨rfl, HBW3.out⟩
end Go.Proofs.Ytpgkbhlgechpmaa
