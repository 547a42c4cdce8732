
/-
  RSTimes, RSPower, Exp, Log, FieldExp, FieldLog, walked. No condition beyond the bounds that each theorem states.
-/
import Derived.Test.YtiielblnmfeapaaRSM
import Derived.Test.YtiielblnmfeapaaGFX
import Derived.Deep.QuietTactic
import Derived.BigQuiet
namespace Go.Proofs.Ytiielblnmfeapaa
open Go.RowKit Go.Qz Go.Qz.RS
set_option linter.unusedVariables false

set_option maxRecDepth 100000 in
set_option maxHeartbeats 1600000 in
theorem rsTimes (F : Fld) (hF : Six F) (a b : Nat) (B : Int) (hB : B = b) (ha : a < F.size) (hb : b < F.size) (w : World) :
    Calls Try.prog 47 #[fv F, .int .i64 a, .int .i64 B] w fun e w' => e = .returned (.int .i64 (mul F a b : Nat)) ∧ Below w.heap.size w w' := by
  subst hB
  have hs := hF.bounds
  obtain ⟨m, e, m2, m12, _⟩ := hF.two
  have hb0 : Below w.heap.size w (w.alloc (.cells #[.int .i64 F.prim, .int .i64 F.size, .int .i64 F.base] 31)) := (Below.refl _ _).alloc (Nat.le_refl _) _
  have hAr : Arr (w.alloc (.cells #[.int .i64 F.prim, .int .i64 F.size, .int .i64 F.base] 31)) 31 w.heap.size [.int .i64 F.prim, .int .i64 F.size, .int .i64 F.base] := Arr.new _ _ _
  have hmul : mul F a b = mgo F a b m 0 := by unfold mul; rw [e, Nat.log2_two_pow]
  have HM := Lib.hid hmul
  have HE := Lib.hid e
  clear e hmul
  unfold fv
  go_enter Try.func47, Try.ntmps47
  go_wp2_with fail
  go_loopw [7, 8] (fun o bt wr => ∃ k x q : Nat, k ≤ m ∧ bt = .int .i64 q ∧ Hid (q = 2 ^ k / 2) ∧ o = .int .i64 x ∧ x < F.size ∧ Hid (mgo F a b k x = mgo F a b m 0) ∧ wr = w.alloc (.cells #[.int .i64 F.prim, .int .i64 F.size, .int .i64 F.base] 31)) (fun _ bt _ => (intOf bt).toNat)
  case atStart => exact ⟨m, 0, F.size / 2, Nat.le_refl _, by simp, Lib.hid (by rw [HE.out]), rfl, by omega, Lib.hid rfl, rfl⟩
  case round =>
    obtain ⟨k, x, q, hk, rfl, hq, rfl, hx, hgo, rfl⟩ := hrel
    rcases k with _ | k
    · have hq0 : q = 0 := hq.out
      subst hq0
      have hg : mul F a b = x := HM.out.trans hgo.out.symm
      have HG := Lib.hid hg
      clear hg
      go_wp2_with fail
      go_ret
      exact ⟨by rw [HG.out]; rfl, hb0⟩
    · have hq1 : q = 2 ^ k := by have := hq.out; rw [Nat.pow_succ] at this; omega
      have hq0 : 0 < q := by rw [hq1]; exact Nat.two_pow_pos k
      have hqs : q < F.size := by rw [hq1, HE.out]; exact Nat.pow_lt_pow_right (by omega) (by omega)
      have a0 := hAr.cell? 0
      have a1 := hAr.cell? 1
      simp only [List.getElem?_cons_zero, List.getElem?_cons_succ] at a0 a1
      obtain ⟨t, ht⟩ : ∃ t, t = b / q := ⟨_, rfl⟩
      have htb : (b : Int) / (q : Int) = (t : Int) := by rw [ht]; simp
      have htl : t ≤ b := by rw [ht]; exact Nat.div_le_self b q
      obtain ⟨y, hy⟩ : ∃ y, y = red F (2 * x) := ⟨_, rfl⟩
      have hyl : y < F.size := by rw [hy]; exact red_lt hF (by omega)
      have hzl : y ^^^ a < F.size := xor_lt_size hF hyl ha
      obtain ⟨z, hz⟩ : ∃ z, z = y ^^^ a := ⟨_, rfl⟩
      rw [← hz] at hzl
      have hxy : bits .xor .i64 (y : Int) (a : Int) = (z : Int) := by rw [hz]; exact i64_xor y a (by omega) (by omega)
      have hnext : mgo F a b (k + 1) x = mgo F a b k (if t % 2 = 1 then z else y) := by
        rw [hz, hy, ht, hq1]; rfl
      have HN := Lib.hid (hnext.symm.trans hgo.out)
      have HQ := Lib.hid (show q / 2 = 2 ^ k / 2 by rw [hq1])
      have HR := Lib.hid hy
      clear hnext hz ht hq1 hq hgo hy
      have hrest : ∀ v : Nat, v = (if t % 2 = 1 then z else y) → v < F.size → Hid (∃ k' x' q' : Nat, k' ≤ m ∧ Value.int .i64 (((q : Int) / 2)) = .int .i64 q' ∧ Hid (q' = 2 ^ k' / 2) ∧ Value.int .i64 (v : Int) = .int .i64 x' ∧ x' < F.size ∧ Hid (mgo F a b k' x' = mgo F a b m 0) ∧ True) := fun v hv hvl =>
        Lib.hid ⟨k, v, q / 2, by omega, by simp, HQ, rfl, hvl, Lib.hid (by rw [hv]; exact HN.out), trivial⟩
      have HREST := Lib.hid hrest
      clear hrest HN HQ
      by_cases h1 : F.size ≤ 2 * x
      · have hr : bits .xor .i64 ((x : Int) * 2) (F.prim : Int) = (y : Int) := by
          rw [show (x : Int) * 2 = ((2 * x : Nat) : Int) by omega, i64_xor _ _ (by omega) (by omega), HR.out]; simp [red, h1]
        by_cases h2 : t % 2 = 1
        · have h3 : (t : Int) % 2 = 1 := by omega
          have HV := Lib.hid (HREST.out z (by simp [h2]) hzl)
          clear HREST HR
          go_wp2_with fail
          go_roundw
          case rel => exact HV.out.out
          case measure => simp [intOf]; omega
        · have h3 : (t : Int) % 2 = 0 := by omega
          have HV := Lib.hid (HREST.out y (by simp [h2]) hyl)
          clear HREST HR
          go_wp2_with fail
          go_roundw
          case rel => exact HV.out.out
          case measure => simp [intOf]; omega
      · have hr : y = 2 * x := by rw [HR.out]; simp [red, h1]
        have hr2 : (x : Int) * 2 = (y : Int) := by omega
        have h1' : ¬ (F.size : Int) ≤ (x : Int) * 2 := by omega
        clear hr
        rw [hr2] at h1'
        by_cases h2 : t % 2 = 1
        · have h3 : (t : Int) % 2 = 1 := by omega
          have HV := Lib.hid (HREST.out z (by simp [h2]) hzl)
          clear HREST HR
          go_wp2_with fail
          go_roundw
          case rel => exact HV.out.out
          case measure => simp [intOf]; omega
        · have h3 : (t : Int) % 2 = 0 := by omega
          have HV := Lib.hid (HREST.out y (by simp [h2]) hyl)
          clear HREST HR
          go_wp2_with fail
          go_roundw
          case rel => exact HV.out.out
          case measure => simp [intOf]; omega

set_option maxRecDepth 100000 in
set_option maxHeartbeats 1600000 in
theorem rsPower (F : Fld) (hF : Six F) (n : Nat) (hn : n < 1000000) (w : World) :
    Calls Try.prog 50 #[fv F, .int .i64 n] w fun e w' => e = .returned (.int .i64 (ex F n : Nat)) ∧ Below w.heap.size w w' := by
  have hs := hF.bounds
  have hb0 : Below w.heap.size w (w.alloc (.cells #[.int .i64 F.prim, .int .i64 F.size, .int .i64 F.base] 31)) := (Below.refl _ _).alloc (Nat.le_refl _) _
  have hAr : Arr (w.alloc (.cells #[.int .i64 F.prim, .int .i64 F.size, .int .i64 F.base] 31)) 31 w.heap.size [.int .i64 F.prim, .int .i64 F.size, .int .i64 F.base] := Arr.new _ _ _
  unfold fv
  go_enter Try.func50, Try.ntmps50
  go_wp2_with fail
  go_loopw [5, 6] (fun o i wr => ∃ k : Nat, k ≤ n ∧ i = .int .i64 k ∧ Hid (o = .int .i64 (ex F k : Nat)) ∧ Below w.heap.size w wr ∧ Arr wr 31 w.heap.size [.int .i64 F.prim, .int .i64 F.size, .int .i64 F.base]) (fun _ i _ => n - (intOf i).toNat)
  case atStart => exact ⟨0, by omega, rfl, Lib.hid rfl, hb0, hAr⟩
  case round =>
    obtain ⟨k, hk, rfl, ho, hbel, hA⟩ := hrel
    clear hb0 hAr
    obtain rfl := ho.out
    clear ho
    by_cases hlt : k < n
    · have a0 := hA.cell? 0
      have a1 := hA.cell? 1
      have a2 := hA.cell? 2
      simp only [List.getElem?_cons_zero, List.getElem?_cons_succ] at a0 a1 a2
      obtain ⟨x, hx⟩ : ∃ x, x = ex F k := ⟨_, rfl⟩
      have hxl : x < F.size := by rw [hx]; exact ex_lt F (by omega) k
      have hm : mul F x 2 = ex F (k + 1) := by rw [mul_two hF hxl, hx]; rfl
      have HT := rsTimes F hF x 2 2 rfl hxl (by omega) wr
      rw [hm] at HT
      rw [← hx]
      unfold fv at HT
      have HT := Lib.hid HT
      have HA := Lib.hid hA
      clear hm hx hA
      go_wp2_with fail
      refine HT.out.mono ?_
      rintro e w1 ⟨rfl, hb1⟩
      have hbel1 := hbel.trans (hb1.mono hbel.size)
      have HA1 := Lib.hid (HA.out.below hb1 HA.out.lt)
      clear a0 a1 a2 HA HT hb1
      go_wp2_with fail
      go_roundw
      case rel => exact ⟨k + 1, by omega, by go_num, Lib.hid rfl, hbel1, HA1.out⟩
      case measure => simp [intOf]; omega
    · obtain rfl : k = n := by omega
      go_wp2_with fail
      go_ret
      exact ⟨rfl, hbel⟩

set_option maxRecDepth 100000 in
set_option maxHeartbeats 1600000 in
theorem gfExp (Q : Nat → Prop) (F : Fld) (hF : Six F) (f n : Nat) (hn : n < F.size) (w : World) (h : GFQ w Q f F) :
    Calls Try.prog 57 #[.pointer (some ⟨f, 0, none⟩), .int .i64 n] w fun e w' => e = .returned (.int .i64 (ex F n : Nat)) ∧ w = w' := by
  have hs := hF.bounds
  obtain ⟨⟨eb, lb, z, o, h1, h2, _⟩, _⟩ := h
  have hc : w.cell? ⟨f, 0, none⟩ = some (.slice (some ⟨eb, 0, none⟩) F.size F.size) := by rw [cell_of_row w f 0 _ _ _ h1]; rfl
  have hv : w.cell? ⟨eb, n, none⟩ = some (.int .i64 (ex F n : Nat)) := by
    rw [Arr.cell? h2]
    simp [pre, hn]
  clear h1 h2
  go_enter Try.func57, Try.ntmps57
  go_wp2_with fail
  go_ret
  exact ⟨rfl, rfl⟩

set_option maxRecDepth 100000 in
set_option maxHeartbeats 1600000 in
theorem gfLog (Q : Nat → Prop) (F : Fld) (hF : Six F) (f n : Nat) (hn : n < F.size) (w : World) (h : GFQ w Q f F) :
    Calls Try.prog 63 #[.pointer (some ⟨f, 0, none⟩), .int .i64 n] w fun e w' => ∃ x y, e = .returned (.tuple #[x, y]) ∧ Below w.heap.size w w' ∧ (n = 0 → IsErr y ∧ x = .int .i64 0) ∧ (n ≠ 0 → y = .nilIface ∧ x = .int .i64 (lg F n : Nat)) := by
  have hs := hF.bounds
  obtain ⟨⟨eb, lb, z, o, h1, _, _, h2, _⟩, _⟩ := h
  have hc : w.cell? ⟨f, 1, none⟩ = some (.slice (some ⟨lb, 0, none⟩) F.size F.size) := by rw [cell_of_row w f 1 _ _ _ h1]; rfl
  have hv : w.cell? ⟨lb, n, none⟩ = some (.int .i64 (lg F n : Nat)) := by
    rw [Arr.cell? h2]
    have hl := logs_length F (F.size - 1)
    rw [List.getElem?_map, List.getElem?_eq_getElem (by omega)]
    simp [lg, List.getD_eq_getElem?_getD, hl, hn]
  clear h1 h2
  by_cases h0 : n = 0
  · subst h0
    go_enter Try.func63, Try.ntmps63
    go_wp2_with fail
    refine (err_new _ _).mono ?_
    rintro e w2 ⟨v, rfl, hv, hb2⟩
    go_wp2_with fail
    go_ret2
    exact ⟨_, _, rfl, hb2, fun _ => ⟨hv, rfl⟩, fun h => absurd rfl h⟩
  · go_enter Try.func63, Try.ntmps63
    go_wp2_with fail
    go_ret2
    exact ⟨_, _, rfl, Below.refl _ _, fun h => absurd h h0, fun _ => ⟨rfl, rfl⟩⟩

end Go.Proofs.Ytiielblnmfeapaa
