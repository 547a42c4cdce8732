/-
  The text of a picture, plain; LuminanceSourceString, walked. No condition beyond the bounds that each theorem states.
-/
import Derived.Test.YthgnmcofclndlaaPXR
namespace Go.Proofs.Ythgnmcofclndlaa
open Go.RowKit Go.Qz
set_option linter.unusedVariables false

/-- The signs behind a pixel; the text by the first pixels; the signs of a row. -/
def sg (f : Nat → Int) (W i : Nat) : List Nat := sgn (f i).toNat :: (if i % W = W - 1 then [10] else [])
def tx (f : Nat → Int) (W : Nat) : Nat → List Nat
  | 0 => []
  | k + 1 => tx f W k ++ sg f W k
def rowS (f : Nat → Int) (W y x : Nat) : List Nat := (List.range x).map fun j => sgn (f (y * W + j)).toNat
theorem rowS_succ (f : Nat → Int) (W y x : Nat) : rowS f W y (x + 1) = rowS f W y x ++ [sgn (f (y * W + x)).toNat] := by simp [rowS, List.range_succ]
theorem rowS_len (f : Nat → Int) (W y x : Nat) : (rowS f W y x).length = x := by simp [rowS]
theorem tx_len (f : Nat → Int) (W : Nat) : ∀ k, (tx f W k).length ≤ 2 * k
  | 0 => by simp [tx]
  | k + 1 => by
    have := tx_len f W k
    simp only [tx, List.length_append, sg, List.length_cons]
    split <;> simp <;> omega
theorem tx_row (f : Nat → Int) (W y : Nat) (hW : 1 ≤ W) : ∀ x, x ≤ W → tx f W (y * W + x) = tx f W (y * W) ++ (rowS f W y x ++ (if x = W then [10] else []))
  | 0, _ => by
    rw [if_neg (by omega)]; simp [rowS]
  | x + 1, hx => by
    have ih := tx_row f W y hW x (by omega)
    rw [if_neg (by omega), List.append_nil] at ih
    rw [← Nat.add_assoc]
    show tx f W (y * W + x) ++ sg f W (y * W + x) = _
    rw [ih, rowS_succ]
    have hm : (y * W + x) % W = x := by rw [Nat.mul_comm, Nat.mul_add_mod, Nat.mod_eq_of_lt (by omega)]
    unfold sg
    rw [hm]
    by_cases h : x + 1 = W
    · rw [if_pos h, if_pos (by omega)]; simp
    · rw [if_neg h, if_neg (by omega)]; simp
theorem tx_next (f : Nat → Int) (W y : Nat) (hW : 1 ≤ W) : tx f W ((y + 1) * W) = tx f W (y * W) ++ rowS f W y W ++ [10] := by
  rw [Nat.add_mul, Nat.one_mul, tx_row f W y hW W (Nat.le_refl _), if_pos rfl, List.append_assoc]
/-- Bytes as values; the text as a string. -/
def u8s (l : List Nat) : List Value := l.map fun x : Nat => Value.int .u8 (x : Int)
theorem u8s_length (l : List Nat) : (u8s l).length = l.length := by simp [u8s]
theorem u8s_append (a b : List Nat) : u8s (a ++ b) = u8s a ++ u8s b := by simp [u8s]
def strT (f : Nat → Int) (W k : Nat) : ByteArray := ⟨((tx f W k).map UInt8.ofNat).toArray⟩
theorem u8_and_255 : ∀ a : Nat, a < 256 → bits .and .u8 (a : Int) 255 = (a : Int) := by decide +kernel
theorem sgn_cases (g : Nat) (hg : g < 256) : (g < 64 ∧ sgn g = 35) ∨ (64 ≤ g ∧ g < 128 ∧ sgn g = 43) ∨ (128 ≤ g ∧ g < 192 ∧ sgn g = 46) ∨ (192 ≤ g ∧ sgn g = 32) := by
  unfold sgn
  split
  · left; omega
  · split
    · right; left; omega
    · split
      · right; right; left; omega
      · right; right; right; omega
theorem rd_bytes {w : World} {base n : Nat} {v : Value} {l : List Nat} (h : w.ownsRow base 5 1 v n (u8s l)) : ∃ A c, v = .slice A n c ∧ n = l.length ∧ Rd w A n (fun j => .int .u8 ((l.getD j 0 : Nat) : Int)) := by
  obtain ⟨A, c, rfl, _, _, hrd⟩ := Rd.of_own h
  have hl : n = l.length := by have := h.1; rw [u8s_length] at this; omega
  refine ⟨A, c, rfl, hl, hrd.congr fun j hj => ?_⟩
  have hj' : j < l.length := by omega
  simp [u8s, List.getD_eq_getElem?_getD, hj']
theorem strNums (l : List Nat) : strOfNums ((List.range l.length).map fun j => ((l.getD j 0 : Nat) : Int)) = ⟨(l.map UInt8.ofNat).toArray⟩ := by
  unfold strOfNums
  congr 2
  apply List.ext_getElem
  · simp
  · intro i h1 h2
    simp at h2
    simp [List.getD_eq_getElem?_getD, h2]

theorem m_width (p : Nat) (w : World) : (method 243 72 (.pointer (some ⟨p, 0, none⟩)) "GetWidth").run Try.prog w = .ok (59, .pointer (some ⟨p, 0, none⟩)) w := by kernel_rfl
theorem m_height (p : Nat) (w : World) : (method 243 72 (.pointer (some ⟨p, 0, none⟩)) "GetHeight").run Try.prog w = .ok (56, .pointer (some ⟨p, 0, none⟩)) w := by kernel_rfl
theorem m_row (p : Nat) (w : World) : (method 243 72 (.pointer (some ⟨p, 0, none⟩)) "GetRow").run Try.prog w = .ok (58, .pointer (some ⟨p, 0, none⟩)) w := by kernel_rfl
theorem m_string (p : Nat) (w : World) : (method 243 72 (.pointer (some ⟨p, 0, none⟩)) "String").run Try.prog w = .ok (65, .pointer (some ⟨p, 0, none⟩)) w := by kernel_rfl
theorem SrcIs.below {w w' : World} {p : Nat} {A : Option Addr} {n c dw dh l t wd ht : Nat} (h : SrcIs w p A n c dw dh l t wd ht) (hb : Below w.heap.size w w') : SrcIs w' p A n c dw dh l t wd ht := Arr.below h hb h.lt

set_option maxRecDepth 100000 in
set_option maxHeartbeats 6400000 in
theorem lumString (p : Nat) (A : Option Addr) (N c W H : Nat) (f : Nat → Int) (hN : N = W * H) (hNc : N ≤ c) (hcm : c ≤ maxLen) (hW : 1 ≤ W) (hW2 : W ≤ 60) (hH1 : 1 ≤ H) (hH2 : H ≤ 60) (hf : ∀ j, 0 ≤ f j ∧ f j ≤ 255) (w : World) (hs : SrcIs w p A N c W H 0 0 W H) (hr : Rd w A N (fun j => .int .u8 (f j))) :
    Calls Try.prog 66 #[.iface 72 (.pointer (some ⟨p, 0, none⟩))] w fun e w' => e = .returned (.string (strT f W N)) ∧ Below w.heap.size w w' := by
  have a0 := hs.cell? 0
  have a1 := hs.cell? 1
  simp only [List.getElem?_cons_zero, List.getElem?_cons_succ] at a0 a1
  have HWW := Lib.hid (getWidth p 0 W w a0)
  have HHH := Lib.hid (getHeight p 0 H w a1)
  have h1 := fun X => m_width p X
  have h2 := fun X => m_height p X
  have h3 := fun X => m_row p X
  obtain ⟨K, hK⟩ : ∃ K, K = H * (W + 1) := ⟨_, rfl⟩
  have e1 : (W : Int) + 1 = ((W + 1 : Nat) : Int) := by omega
  have e2 : (H : Int) * ((W + 1 : Nat) : Int) = (K : Int) := by rw [hK]; simp
  have e2' : (H : Int) * ((W : Int) + 1) = (K : Int) := by rw [hK]; simp
  have hKl : K ≤ 3660 := by rw [hK]; exact Nat.mul_le_mul hH2 (show W + 1 ≤ 61 by omega)
  have hmk := fun X => run_make1 (P := Try.prog) 22 5 (.int .u8 0) 1 Try.underlying22 Try.infoByte rfl (by decide) W (by omega) .i64 .i64 W rfl X
  have hmk2 := fun X => run_make0 (P := Try.prog) 22 5 (.int .u8 0) 1 Try.underlying22 Try.infoByte rfl (by decide) K (by omega) .i64 .i64 K rfl X
  have HS := Lib.hid hs
  have HR := Lib.hid hr
  have HF := Lib.hid hf
  have HNN := Lib.hid hN
  clear hs hr hf a0 a1 hK e1 hN
  go_enter Try.func66, Try.ntmps66
  go_wp2_with fail
  refine HWW.out.mono ?_
  rintro e w1 ⟨rfl, rfl⟩
  go_wp2_with fail
  refine HHH.out.mono ?_
  rintro e w1 ⟨rfl, rfl⟩
  go_wp2_with fail
  have hA := arr_zeros w 5 W (.int .u8 0)
  have hB1 : Below w.heap.size w (w.alloc (.cells (zeros W (.int .u8 0)) 5)) := (Below.refl _ _).alloc (Nat.le_refl _) _
  have hO := own_make0 (w.alloc (.cells (zeros W (.int .u8 0)) 5)) 5 (.int .u8 0) K (w.heap.size + 1) (by simp) (by unfold maxLen; omega)
  have hB2 := hB1.alloc (by simp) (.cells (zeros K (.int .u8 0)) 5)
  have hA2 := hA.below ((Below.refl _ _).alloc (Nat.le_refl _) (.cells (zeros K (.int .u8 0)) 5)) (by simp)
  simp only [World.size_alloc] at hO
  generalize (w.alloc (.cells (zeros W (.int .u8 0)) 5)).alloc (.cells (zeros K (.int .u8 0)) 5) = W1 at *
  obtain ⟨R, hR⟩ : ∃ R, R = w.heap.size := ⟨_, rfl⟩
  rw [← hR] at hA2 hB2 hO ⊢
  have HRR := Lib.hid hR
  clear hR hA hB1 hmk hmk2 h1 h2 e2 e2' HWW HHH
  go_wp2_with fail
  go_loopw [5, 6, 7] (fun r v i wr => ∃ (k n : Nat) (cur : List Value) (V : Value), V = v ∧ k ≤ H ∧ n ≤ 7300 ∧ i = .int .i64 k ∧ r = .slice (some ⟨R, 0, none⟩) W W ∧ Hid (Arr wr 5 R cur) ∧ Hid (cur.length = W) ∧ Hid (wr.ownsRow (R + 1) 5 1 v n (u8s (tx f W (k * W)))) ∧ Hid (Below R w wr)) (fun _ _ i _ => H - (intOf i).toNat)
  case atStart => exact ⟨0, 0, List.replicate W (.int .u8 0), _, rfl, by omega, by omega, rfl, rfl, Lib.hid hA2, Lib.hid (by simp), Lib.hid (by rw [Nat.zero_mul]; exact hO), Lib.hid hB2⟩
  case round =>
    obtain ⟨k, n, cur, v, rfl, hk, hn, rfl, rfl, HA, HCL, HO, HB⟩ := hrel
    clear hA2 hB2 hO
    by_cases hlt : k < H
    · have hlt1 : (k : Int) < (H : Int) := by omega
      have HBW : Hid (Below w.heap.size w wr) := Lib.hid (by rw [← HRR.out]; exact HB.out)
      have HGR := Lib.hid (getRow p R A N c W H k f cur HCL.out HNN.out hNc hcm hW hW2 hH2 hlt wr (HS.out.below HBW.out) (HR.out.below HBW.out) HA.out)
      go_wp2_with fail
      refine HGR.out.mono ?_
      rintro e w2 ⟨rfl, ha2, hm2⟩
      have HA2 := Lib.hid ha2
      have HO2 : Hid (w2.ownsRow (R + 1) 5 1 v n (u8s (tx f W (k * W)))) := Lib.hid (own_mod HO.out hm2 (fun j hj h => by have := (HO.out.lt j hj).1; omega))
      have HB2 : Hid (Below R w w2) := Lib.hid (HB.out.trans (hm2.below (by have := HA.out.lt; omega) (fun j hj => by omega)))
      have hRl2 : R < w2.heap.size := ha2.lt
      clear ha2 hm2 HGR HBW HA HO HB HCL
      go_wp2_with fail
      obtain ⟨W4, hW4⟩ : ∃ W4, W4 = w2 := ⟨_, rfl⟩
      rw [← hW4] at HA2 HO2 HB2 hRl2 ⊢
      clear hW4
      go_loopw [6, 8] (fun v i wr => ∃ (x n : Nat) (V : Value), V = v ∧ x ≤ W ∧ n ≤ 7300 ∧ i = .int .i64 x ∧ Hid (Arr wr 5 R (rowY f W k)) ∧ Hid (wr.ownsRow (R + 1) 5 1 v n (u8s (tx f W (k * W) ++ rowS f W k x))) ∧ Hid (Below R w wr)) (fun _ i _ => W - (intOf i).toNat)
      case atStart => exact ⟨0, n, _, rfl, by omega, hn, rfl, HA2, Lib.hid (by simpa [rowS] using HO2.out), HB2⟩
      case round =>
        obtain ⟨x, n2, v2, rfl, hx, hn2, rfl, HA3, HO3, HB3⟩ := hrel
        clear HA2 HO2 HB2 hRl2
        have hRl3 : R + 1 ≤ wr.heap.size := HA3.out.lt
        by_cases hltx : x < W
        · have hcell := HA3.out.cell? x
          have hrow : (rowY f W k)[x]? = some (.int .u8 (f (k * W + x))) := by simp [rowY, hltx]
          rw [hrow] at hcell
          obtain ⟨g, hg⟩ : ∃ g : Nat, (g : Int) = f (k * W + x) := ⟨(f (k * W + x)).toNat, by have := (HF.out (k * W + x)).1; omega⟩
          have hgl : g < 256 := by have := (HF.out (k * W + x)).2; omega
          rw [← hg] at hcell
          have hand := u8_and_255 g hgl
          have HSG : Hid (rowS f W k (x + 1) = rowS f W k x ++ [sgn g]) := Lib.hid (by rw [rowS_succ, ← hg, Int.toNat_natCast])
          have hx0 : (0 : Int) ≤ (x : Int) := by omega
          have hx1 : (x : Int) < (W : Int) := by omega
          have hln : n2 ≤ 7200 := by
            have h1 := HO3.out.1
            have h2 := tx_len f W (k * W)
            have h3 : k * W ≤ 60 * 60 := Nat.mul_le_mul (by omega) hW2
            rw [u8s_length, List.length_append, rowS_len] at h1
            have h4 : (k + 1) * W ≤ 60 * 60 := Nat.mul_le_mul (show k + 1 ≤ 60 by omega) hW2
            rw [Nat.add_mul, Nat.one_mul] at h4
            omega
          clear hg hrow
          rcases sgn_cases g hgl with ⟨c1, hs⟩ | ⟨c1, c2, hs⟩ | ⟨c1, c2, hs⟩ | ⟨c1, hs⟩
          all_goals
            have HSS := Lib.hid hs
            clear hs
            go_wp2_with (at_builtin; refine wpList_push _ _ 22 (R + 1) 5 (.int .u8 0) 1 _ n2 (u8s (tx f W (k * W) ++ rowS f W k x)) _ rfl rfl rfl rfl Try.underlying22 Try.infoByte rfl rfl (by decide) HO3.out (by omega) hRl3 ?_)
            intro v' w5 hown5 hg5 hb5
            obtain ⟨A5, c5, rfl, _, _, _⟩ := Rd.of_own hown5
            have HO5 : Hid (w5.ownsRow (R + 1) 5 1 (.slice A5 (n2 + 1) c5) (n2 + 1) (u8s (tx f W (k * W) ++ rowS f W k (x + 1)))) := Lib.hid (by
              rw [HSG.out, HSS.out, ← List.append_assoc, u8s_append]
              exact hown5)
            have HA5 := Lib.hid (HA3.out.below hb5 (Nat.lt_succ_self _))
            have HB5 := Lib.hid (HB3.out.trans (hb5.mono (Nat.le_succ _)))
            clear hown5 hg5 hb5 HO3 HA3 HB3
            go_wp2_with fail
            go_roundw
            case rel => exact ⟨x + 1, n2 + 1, _, rfl, by omega, by omega, by go_num, HA5, HO5, HB5⟩
            case measure => simp [intOf]; omega
        · obtain rfl : x = W := by omega
          have HLN : Hid (n2 + 1 ≤ 7300) := Lib.hid (by
            have h1 := HO3.out.1
            have h2 := tx_len f x (k * x)
            have h3 : k * x ≤ 60 * 60 := Nat.mul_le_mul (by omega) hW2
            rw [u8s_length, List.length_append, rowS_len] at h1
            have h4 : (k + 1) * x ≤ 60 * 60 := Nat.mul_le_mul (show k + 1 ≤ 60 by omega) hW2
            rw [Nat.add_mul, Nat.one_mul] at h4
            omega)
          have HNX : Hid (tx f x ((k + 1) * x) = tx f x (k * x) ++ rowS f x k x ++ [10]) := Lib.hid (tx_next f x k hW)
          clear hltx
          go_wp2_with (at_builtin; refine wpList_push _ _ 22 (R + 1) 5 (.int .u8 0) 1 _ n2 (u8s (tx f x (k * x) ++ rowS f x k x)) _ rfl rfl rfl rfl Try.underlying22 Try.infoByte rfl rfl (by decide) HO3.out (by omega) hRl3 ?_)
          intro v' w5 hown5 hg5 hb5
          obtain ⟨A5, c5, rfl, _, _, _⟩ := Rd.of_own hown5
          have HO5 : Hid (w5.ownsRow (R + 1) 5 1 (.slice A5 (n2 + 1) c5) (n2 + 1) (u8s (tx f x ((k + 1) * x)))) := Lib.hid (by
            rw [HNX.out, u8s_append]
            exact hown5)
          have HA5 := Lib.hid (HA3.out.below hb5 (Nat.lt_succ_self _))
          have HB5 := Lib.hid (HB3.out.trans (hb5.mono (Nat.le_succ _)))
          clear hown5 hg5 hb5 HO3 HA3 HB3
          go_wp2_with fail
          go_roundw
          case rel => exact ⟨k + 1, n2 + 1, rowY f x k, _, rfl, by omega, HLN.out, by go_num, rfl, HA5, Lib.hid (by simp [rowY]), HO5, HB5⟩
          case measure => simp [intOf]; omega
    · obtain rfl : k = H := by omega
      obtain ⟨A5, c5, rfl, hl, hrd⟩ := rd_bytes HO.out
      have hne : 1 ≤ n := by
        have h1 : tx f W (k * W) = tx f W ((k - 1 + 1) * W) := by rw [show k - 1 + 1 = k by omega]
        have h2 := congrArg List.length h1
        rw [tx_next f W (k - 1) hW, List.length_append] at h2
        simp at h2
        omega
      have hcv := conv_rd (P := Try.prog) (c := c5) (dst := 9) hrd hne Try.underlying22 (by kernel_rfl) (by kernel_rfl)
      have hst : strOfNums ((List.range n).map fun j => (((tx f W (k * W)).getD j 0 : Nat) : Int)) = strT f W N := by
        rw [hl, strNums, HNN.out, Nat.mul_comm W k]; rfl
      rw [hst] at hcv
      have HB5 : Hid (Below w.heap.size w wr) := Lib.hid (by rw [← HRR.out]; exact HB.out)
      clear hl hrd hst hlt hne HB HO
      go_wp2_with fail
      go_ret
      exact ⟨rfl, HB5.out⟩
end Go.Proofs.Ythgnmcofclndlaa
