/-
  pxGrays, walked: a picture of the bytes that are there, again and again. No condition beyond the bounds that each theorem states.
-/
import Derived.Test.YthgnmcofclndlaaBase
import Derived.Test.YthgnmcofclndlaaRows
import Derived.WideLaws
import Derived.OwnWalk
import Derived.Deep.DeepCutAuto
namespace Go.Proofs.Ythgnmcofclndlaa
open Go.RowKit Go.Qz
set_option linter.unusedVariables false

theorem Try.infoByte : (Try.prog.info? 5).map (fun i => (i.zero, i.size, i.bytes)) = some (some (.int .u8 0), 1, 1) := by kernel_rfl

/-- The grays of a picture, of bytes that are there. -/
def gq (z : Nat → Int) (n i : Nat) : Int := if n = 0 then 0 else z (i % n)
/-- So many bytes, of which the first ones are laid. -/
def upY (N k : Nat) (g : Nat → Int) : List Value := (List.range N).map fun i => .int .u8 (if i < k then g i else 0)
theorem upY_zero (N : Nat) (g : Nat → Int) : upY N 0 g = List.replicate N (.int .u8 0) := by
  apply List.ext_getElem?
  intro i
  simp [upY, List.getElem?_replicate]
  by_cases h : i < N <;> simp [h]
theorem upY_set (N k : Nat) (g : Nat → Int) : (upY N k g).set k (.int .u8 (g k)) = upY N (k + 1) g := by
  apply List.ext_getElem?
  intro i
  rw [List.getElem?_set]
  unfold upY
  by_cases hN : i < N
  · by_cases hi : k = i
    · subst hi
      simp [hN]
    · rw [if_neg hi]
      simp only [List.getElem?_map, List.getElem?_range hN, Option.map_some]
      have : (i < k + 1) ↔ i < k := by omega
      simp [this]
  · by_cases hi : k = i
    · subst hi; simp [hN]
    · simp [hi, hN]
theorem upY_len (N k : Nat) (g : Nat → Int) : (upY N k g).length = N := by simp [upY]
theorem upY_get (N k : Nat) (g : Nat → Int) (i : Nat) (hi : i < N) : (upY N k g)[i]? = some (.int .u8 (if i < k then g i else 0)) := by simp [upY, hi]
theorem arr_zeros (w : World) (t : TypeId) (n : Nat) (z : Value) : Arr (w.alloc (.cells (zeros n z) t)) t w.heap.size (List.replicate n z) := by
  have := Arr.new w t (List.replicate n z)
  exact this

def PxPost (W H : Nat) (g : Nat → Int) (w : World) (e : Ending) (w' : World) : Prop := ∃ b, e = .returned (.tuple #[.int .i64 W, .int .i64 H, .slice (some ⟨b, 0, none⟩) (W * H) (W * H)]) ∧ b < w'.heap.size ∧ Arr w' 5 b (upY (W * H) (W * H) g) ∧ Below w.heap.size w w'

set_option maxRecDepth 100000 in
set_option maxHeartbeats 3200000 in
theorem pxGrays (A : Option Addr) (n c : Nat) (z : Nat → Int) (a W H : Nat) (w : World) (hn : n ≤ 2147483647) (hrd : Rd w A n (fun j => .int .u8 (z j))) (hz : ∀ j, (Lit.int .u8 (z j)).wf = true) (ha : a < 256) (hW : W = 1 + a % 60) (hH : H = min 60 (max 1 (n / W))) :
    Calls Try.prog 7 #[.slice A n c, .int .u8 a] w (PxPost W H (gq z n) w) := by
  have hW1 : 1 ≤ W := by omega
  have hW2 : W ≤ 60 := by omega
  have hH1 : 1 ≤ H := by omega
  have hH2 : H ≤ 60 := by omega
  obtain ⟨p, hp⟩ : ∃ p, p = a % 60 := ⟨_, rfl⟩
  have em : (a : Int) % 60 = (p : Int) := by omega
  have et : (a : Int).tmod 60 = (p : Int) := by rw [Int.tmod_eq_emod_of_nonneg (by omega)]; exact em
  have ew : (1 : Int) + (p : Int) = (W : Int) := by omega
  obtain ⟨q, hq⟩ : ∃ q, q = n / W := ⟨_, rfl⟩
  have eq1 : (n : Int) / (W : Int) = (q : Int) := by rw [hq]; simp
  have eq2 : (n : Int).tdiv (W : Int) = (q : Int) := by rw [Int.tdiv_eq_ediv_of_nonneg (by omega)]; exact eq1
  have hql : q ≤ 2147483647 := by rw [hq]; exact Nat.le_trans (Nat.div_le_self _ _) hn
  have HH : H = min 60 (max 1 q) := by rw [hq]; exact hH
  obtain ⟨m, hm⟩ : ∃ m, m = max 1 q := ⟨_, rfl⟩
  have hm1 : (if 1 < (q : Int) then (q : Int) else 1) = (m : Int) := by split <;> omega
  have hm2 : (if (m : Int) < 60 then (m : Int) else 60) = (H : Int) := by split <;> omega
  obtain ⟨N, hN⟩ : ∃ N, N = W * H := ⟨_, rfl⟩
  have eN : (W : Int) * (H : Int) = (N : Int) := by rw [hN]; simp
  have hNl : N ≤ 3600 := by rw [hN]; exact Nat.mul_le_mul hW2 hH2
  have hmk := fun X => run_make1 (P := Try.prog) 22 5 (.int .u8 0) 1 Try.underlying22 Try.infoByte rfl (by decide) N (by omega) .i64 .i64 N rfl X
  have HRD := Lib.hid hrd
  have HZ := Lib.hid hz
  have HP : Hid (PxPost W H (gq z n) w = fun e w' => ∃ b, e = .returned (.tuple #[.int .i64 W, .int .i64 H, .slice (some ⟨b, 0, none⟩) N N]) ∧ b < w'.heap.size ∧ Arr w' 5 b (upY N N (gq z n)) ∧ Below w.heap.size w w') := Lib.hid (by unfold PxPost; rw [← hN])
  clear hW hH hq hp hN hrd hz HH hm
  go_enter Try.func7, Try.ntmps7
  go_wp2_with fail
  have hA := arr_zeros w 5 N (.int .u8 0)
  rw [← upY_zero N (gq z n)] at hA
  have hB : Below w.heap.size w (w.alloc (.cells (zeros N (.int .u8 0)) 5)) := (Below.refl _ _).alloc (Nat.le_refl _) _
  generalize w.alloc (.cells (zeros N (.int .u8 0)) 5) = W1 at *
  obtain ⟨G, hG⟩ : ∃ G, G = w.heap.size := ⟨_, rfl⟩
  have hGS : G ≤ W1.heap.size := hG ▸ hB.size
  rw [← hG] at hA hB ⊢
  have HGE := Lib.hid hG
  clear hG hmk
  have hN1 : 0 < N := by
    have : 0 < W * H := Nat.mul_pos hW1 hH1
    have : ((W * H : Nat) : Int) = (N : Int) := by rw [← eN]; simp
    omega
  go_loopw [10] (fun i wr => ∃ k : Nat, k ≤ N ∧ (n = 0 → k = 0) ∧ i = .int .i64 k ∧ Arr wr 5 G (upY N k (gq z n)) ∧ Below G w wr) (fun i _ => N - (intOf i).toNat)
  case atStart => exact ⟨0, by omega, fun _ => rfl, rfl, hA, hB⟩
  case round =>
    obtain ⟨k, hk, hk0, rfl, hA2, hB2⟩ := hrel
    have HA := Lib.hid hA2
    have HB := Lib.hid hB2
    have hGl := hA2.lt
    clear hA hB
    by_cases hn0 : n = 0
    · have hk1 := hk0 hn0
      have HE : Hid (upY N 0 (gq z n) = upY N N (gq z n)) := Lib.hid (by
        apply List.map_congr_left
        intro i hi
        simp [gq, hn0])
      subst hk1
      subst hn0
      have hN2 : (0 : Int) < (N : Int) := by omega
      clear hA2 hB2
      go_wp2_with fail
      go_ret3
      rw [HP.out]
      exact ⟨G, rfl, hGl, by rw [← HE.out]; exact HA.out, HGE.out ▸ HB.out⟩
    · have hn1 : (0 : Int) < (n : Int) := by omega
      by_cases hlt : k < N
      · have hlt1 : (k : Int) < (N : Int) := by omega
        obtain ⟨r, hr⟩ : ∃ r, r = k % n := ⟨_, rfl⟩
        have er : (k : Int) % (n : Int) = (r : Int) := by rw [hr]; simp
        have er2 : (k : Int).tmod (n : Int) = (r : Int) := by rw [Int.tmod_eq_emod_of_nonneg (by omega)]; exact er
        have hrn : r < n := by rw [hr]; exact Nat.mod_lt _ (by omega)
        have hrn1 : (r : Int) < (n : Int) := by omega
        obtain ⟨b0, off, rfl, hb0, hc⟩ := HRD.out (by omega)
        have hcr := hc r hrn
        have hcr2 := (hB2.cell (p := ⟨b0, off + r, none⟩) (by dsimp only; rw [HGE.out]; exact hb0)).trans hcr
        have hg : gq z n k = z r := by unfold gq; rw [if_neg hn0, ← hr]
        have hzr := bd_u8 (HZ.out r)
        obtain ⟨y, hy⟩ : ∃ y, y = z r := ⟨_, rfl⟩
        have hdst := (hA2.cell? k).trans (upY_get N k (gq z n) k hlt)
        rw [if_neg (Nat.lt_irrefl k)] at hdst
        have hfr := hA2.free k
        have HS : Hid (Arr (wr.setCell ⟨G, k, none⟩ (.int .u8 y)) 5 G (upY N (k + 1) (gq z n))) := Lib.hid (by
          have := hA2.set_ k (.int .u8 (gq z n k))
          rw [upY_set, hg, ← hy] at this
          exact this)
        have HB3 : Hid (Below G w (wr.setCell ⟨G, k, none⟩ (.int .u8 y))) := Lib.hid (hB2.setCell (p := ⟨G, k, none⟩) (by dsimp only; omega) (.int .u8 y))
        dsimp only at hcr2
        rw [← hy] at hcr2 hzr
        clear hA2 hB2 hc hcr hr hy hg hk0 HA HB
        go_wp2_with fail
        go_roundw
        case rel => exact ⟨k + 1, by omega, fun h => absurd h hn0, by go_num, HS.out, HB3.out⟩
        case measure => simp [intOf]; omega
      · obtain rfl : k = N := by omega
        clear hA2 hB2 hlt
        go_wp2_with fail
        go_ret3
        rw [HP.out]
        exact ⟨G, rfl, hGl, HA.out, HGE.out ▸ HB.out⟩
end Go.Proofs.Ythgnmcofclndlaa
