/-
  spec.RSHurt, walked; and what it leaves is a received word.
-/
import Derived.Test.YtiielblnmfeapaaRSG6
import Derived.Test.YtiielblnmfeapaaRSD6
import Derived.BigRegion
import Derived.Deep.RegionHeld3
import Derived.Deep.RegionLaw
namespace Go.Qz.RS
open Go.Qz Go.Proofs.Ytiielblnmfeapaa
set_option linter.unusedVariables false
variable {F : Fld}
/-- Words that differ at few places are a code that was received. -/
theorem rcv_of (hF : Six F) {L R H : List Nat} (hL : El F L) (hR : El F R) (hlen : R.length = L.length) (hd : ∀ k, k < L.length → k ∉ H → nth R k = nth L k) :
    ∃ J Y, J.Nodup ∧ J.length ≤ H.length ∧ (∀ j ∈ J, j < L.length) ∧ (∀ j, Y j < F.size) ∧ (∀ j, Y j ≠ 0) ∧ Rcv F Y L R J := by
  have hs := hF.bounds
  obtain ⟨Y, hY⟩ : ∃ Y : Nat → Nat, Y = fun i => if RS.co R i ^^^ RS.co L i = 0 then 1 else RS.co R i ^^^ RS.co L i := ⟨_, rfl⟩
  obtain ⟨J, hJ⟩ : ∃ J, J = (List.range L.length).filter (fun i => RS.co R i != RS.co L i) := ⟨_, rfl⟩
  have hmem : ∀ j, j ∈ J ↔ j < L.length ∧ RS.co R j ≠ RS.co L j := fun j => by rw [hJ]; simp
  have nd : J.Nodup := by rw [hJ]; exact List.Pairwise.filter _ List.nodup_range
  refine ⟨J, Y, nd, ?_, fun j hj => ((hmem j).1 hj).1, fun j => ?_, fun j => ?_, hlen, fun i => ?_⟩
  · have hsub : ∀ k ∈ J.map (fun i => L.length - 1 - i), k ∈ H := by
      intro k hk
      obtain ⟨i, hi, rfl⟩ := List.mem_map.1 hk
      obtain ⟨h1, h2⟩ := (hmem i).1 hi
      by_cases e : L.length - 1 - i ∈ H
      · exact e
      · exfalso
        apply h2
        unfold RS.co
        rw [hlen, if_pos h1, if_pos h1]
        exact hd _ (by omega) e
    have hnd : (J.map (fun i => L.length - 1 - i)).Nodup := by
      unfold List.Nodup
      rw [List.pairwise_map]
      refine List.Pairwise.imp_of_mem ?_ nd
      intro a b ha hb hne e
      have := ((hmem a).1 ha).1
      have := ((hmem b).1 hb).1
      exact hne (by omega)
    have := hnd.length_le_of_subset hsub
    rwa [List.length_map] at this
  · rw [hY]; dsimp only
    split
    · omega
    · exact xor_lt_size hF (co_lt hR j) (co_lt hL j)
  · rw [hY]; dsimp only
    split
    · omega
    · assumption
  · unfold errc
    by_cases hm : i ∈ J
    · rw [if_pos hm, hY]; dsimp only
      have hne := ((hmem i).1 hm).2
      rw [if_neg (fun e => hne (by
        have h2 : RS.co R i ^^^ RS.co L i ^^^ RS.co L i = 0 ^^^ RS.co L i := by rw [e]
        rwa [Nat.xor_assoc, Nat.xor_self, Nat.xor_zero, Nat.zero_xor] at h2))]
      rw [Nat.xor_comm (RS.co R i), ← Nat.xor_assoc, Nat.xor_self, Nat.zero_xor]
    · rw [if_neg hm, Nat.xor_zero]
      by_cases hi : i < L.length
      · exact Classical.byContradiction fun e => hm ((hmem i).2 ⟨hi, e⟩)
      · rw [co_past (by omega), co_past (by omega)]
end Go.Qz.RS
namespace Go.Proofs.Ytiielblnmfeapaa
open Go.RowKit Go.Qz Go.Qz.RS
set_option linter.unusedVariables false

theorem Try.infoBoolH : (Try.prog.info? 4).map (fun i => (i.zero, i.size, i.bytes)) = some (some (.bool false), 1, 1) := by kernel_rfl

theorem rem_runH (a b c : Int) (h0 : ¬ b = 0) (h : a.tmod b = c) (W : World) : (binOp .rem 3 (.int .i64 a) (.int .i64 b)).run Try.prog W = .ok (.int .i64 c) W := by
  rw [← h]
  show Sem.run _ _ _ = _
  simp [binOp, go_sem, h0]

def HurtPost (F : Fld) (L : List Nat) (n most : Nat) (w : World) (e : Ending) (w' : World) : Prop :=
  ∃ (R H : List Nat) (A : Option Addr) (c : Nat), e = .returned (.slice A n c) ∧ SlQ w' (fun _ => True) A R c ∧ R.length = n ∧ El F R ∧ H.length ≤ most ∧ (∀ k, k < n → k ∉ H → nth R k = nth L k) ∧ Below w.heap.size w w'

set_option maxRecDepth 100000 in
set_option maxHeartbeats 12800000 in
theorem rsHurt (F : Fld) (hF : Six F) (L : List Nat) (n : Nat) (hL : El F L) (hn : n = L.length) (hn0 : 0 < n) (hnl : n ≤ 5000) (most : Nat) (hmo : most ≤ 5000) (A A1 A2 : Option Addr) (c n1 c1 n2 c2 : Nat) (z1 z2 : Nat → Int) (hb1 : n1 < 4294967296) (hb2 : n2 < 4294967296) (hz1 : ∀ j, j < n1 → 0 ≤ z1 j ∧ z1 j ≤ 65535) (hz2 : ∀ j, j < n2 → 0 ≤ z2 j ∧ z2 j ≤ 65535)
    (w : World) (h : Rd w A n (fun j => .int .i64 (nth L j : Nat))) (h1 : Rd w A1 n1 (fun j => .int .u16 (z1 j))) (h2 : Rd w A2 n2 (fun j => .int .u16 (z2 j))) :
    Calls Try.prog 7 #[fv F, .slice A n c, .slice A1 n1 c1, .slice A2 n2 c2, .int .i64 most] w (HurtPost F L n most w) := by
  have hs := hF.bounds
  obtain ⟨w0, hw0⟩ : ∃ w0, w0 = w.alloc (.cells #[.int .i64 F.prim, .int .i64 F.size, .int .i64 F.base] 31) := ⟨_, rfl⟩
  have hb0 : Below w.heap.size w w0 := by rw [hw0]; exact (Below.refl _ _).alloc (Nat.le_refl _) _
  have hsz0 : w0.heap.size = w.heap.size + 1 := by rw [hw0]; simp
  have hAr : Arr w0 31 w.heap.size [.int .i64 F.prim, .int .i64 F.size, .int .i64 F.base] := by rw [hw0]; exact Arr.new _ _ _
  have HAr := Lib.hid hAr
  have hown := World.ownsRow_lit (e := 3) (size := 1) w0 #[] 0 (Nat.le_refl w0.heap.size) (by unfold maxLen; omega) rfl
  have hb0' : Below w0.heap.size w0 (w0.alloc (.cells #[] 3)) := (Below.refl _ _).alloc (Nat.le_refl _) _
  have hrd := (h.below hb0).alloc (.cells #[] 3)
  have HB0 := Lib.hid hb0
  have HR1 := Lib.hid h1
  have HR2 := Lib.hid h2
  have HZ1 := Lib.hid hz1
  have HZ2 := Lib.hid hz2
  have HL := Lib.hid hL
  have HN := Lib.hid hn
  have hmk := fun W => run_make1 (P := Try.prog) 33 4 (.bool false) 1 Try.underlying33 Try.infoBoolH rfl (by decide) n (by omega) .i64 .i64 (n : Int) rfl W
  have hr2 : (List.range n).map (fun j => Value.int .i64 (nth L j : Nat)) = ints L := by
    rw [hn, range_nth]; rfl
  unfold fv
  have HSZ := Lib.hid hsz0
  clear h h1 h2 hz1 hz2 hL hAr hn hsz0
  go_enter Try.func7, Try.ntmps7
  go_upto_region 1 with (fail)
  rw [← hw0]
  have HW0 := Lib.hid hw0
  clear hw0
  go_wp2_with (at_builtin; refine wpList_copyTo _ _ 25 w0.heap.size 3 (.int .i64 0) 8 _ 0 [] _ _ _ _ rfl rfl rfl rfl Try.underlying25 Try.infoInt rfl (fun j _ => rfl) (by decide) hown hrd (by omega) hb0'.size ?_)
  intro v1 w1 hown1 hg1 hb3
  have hown3 := hown1.2
  rcases hown3 with ⟨_, h0⟩ | ⟨CB, cap, cur, rfl, hlb, hcur, hncap, hcm, hcsz, htk⟩
  · exfalso
    omega
  have hlbl : CB < w1.heap.size := (Array.getElem?_eq_some_iff.1 hcur).1
  rw [Nat.mul_one] at htk
  obtain ⟨spare, hsp⟩ : ∃ spare, spare = cur.toList.drop n := ⟨_, rfl⟩
  have hcl : cur.toList = ints L ++ spare := by rw [← htk, hsp, List.take_append_drop]
  have HARR : Hid (Arr w1 3 CB (ints L ++ spare)) := Lib.hid (by
    unfold Arr
    rw [hcur, ← hcl, Array.toArray_toList])
  have HB1 := Lib.hid (hb0'.trans hb3)
  clear hown hown1 hg1 hb3 hb0' hrd hb0 hcur hcsz htk hsp hcl hr2
  go_wp2_with fail
  obtain ⟨HB, hHB⟩ : ∃ HB, HB = w1.heap.size := ⟨_, rfl⟩
  have hI : Arr (w1.alloc (.cells (zeros n (.bool false)) 4)) 4 w1.heap.size ((List.replicate n false).map Value.bool) := by
    rw [List.map_replicate]
    exact Arr.new _ _ _
  have hI2 := HARR.out.below (Below.refl w1.heap.size w1 |>.alloc (Nat.le_refl _) (.cells (zeros n (.bool false)) 4)) hlbl
  have hB2 := HB1.out.alloc HB1.out.size (.cells (zeros n (.bool false)) 4)
  have hsz1 := HB1.out.size
  obtain ⟨W2, hW2⟩ : ∃ W2, W2 = w1.alloc (.cells (zeros n (.bool false)) 4) := ⟨_, rfl⟩
  rw [← hW2] at hI hI2 hB2 ⊢
  rw [← hHB] at hI hlbl hsz1 ⊢
  clear hW2 hHB hmk
  have hHBn : CB ≠ HB := by omega
  have HCL0 : Hid (L.length = n ∧ El F L ∧ ∀ k, k < n → k ∉ ([] : List Nat) → nth L k = nth L k) := Lib.hid ⟨by rw [HN.out], HL.out, fun _ _ _ => rfl⟩
  go_loopw [4, 13] (fun mo i wr => ∃ (q u : Nat) (C H : List Nat) (bs : List Bool), q ≤ n1 ∧ i = .int .i64 q ∧ mo = .int .i64 u ∧ Hid (H.length + u ≤ most) ∧ Hid (C.length = n ∧ El F C ∧ ∀ k, k < n → k ∉ H → nth C k = nth L k) ∧ Hid (bs.length = n) ∧ Hid (Arr wr 3 CB (ints C ++ spare)) ∧ Hid (Arr wr 4 HB (bs.map Value.bool)) ∧ Hid (Below w0.heap.size w0 wr)) (fun _ i _ => n1 - (intOf i).toNat)
  case atStart => exact ⟨0, most, L, [], List.replicate n false, by omega, rfl, rfl, Lib.hid (by simp), HCL0, Lib.hid (by simp), Lib.hid hI2, Lib.hid hI, Lib.hid hB2⟩
  case round =>
    obtain ⟨q, u, C, H, bs, hq, rfl, rfl, HU, HCL, HBL, HAC, HAB, HBE⟩ := hrel
    clear hI hI2 hB2
    have hAr2 := HAr.out.below HBE.out (by have := HSZ.out; omega)
    by_cases hgo : q < n1 ∧ 0 < u
    · obtain ⟨hlt, hu⟩ := hgo
      have hlt1 : (q : Int) < (n1 : Int) := by omega
      have hq0 : (0 : Int) ≤ (q : Int) := by omega
      have hu1 : (0 : Int) < (u : Int) := by omega
      have hn1 : (0 : Int) < (n : Int) := by omega
      have hn2 : ¬ (n : Int) = 0 := by omega
      have hul : u ≤ 5000 := by have := HU.out; omega
      obtain ⟨bl1, o1, hA1, hbb1, hcc1⟩ := ((HR1.out.below HB0.out).below HBE.out) (by omega)
      subst hA1
      have hck1 := hcc1 q hlt
      dsimp only at hck1
      obtain ⟨x1, hx1⟩ : ∃ x1 : Nat, (x1 : Int) = z1 q := ⟨(z1 q).toNat, by have := HZ1.out q hlt; omega⟩
      have hx1l : x1 ≤ 65535 := by have := HZ1.out q hlt; omega
      rw [← hx1] at hck1
      obtain ⟨k, hk⟩ : ∃ k, k = x1 % n := ⟨_, rfl⟩
      have hkn : k < n := by rw [hk]; exact Nat.mod_lt _ hn0
      have ek : (x1 : Int).tmod (n : Int) = (k : Int) := by rw [Int.tmod_eq_emod_of_nonneg (by omega), hk]; simp
      have hk0 : (0 : Int) ≤ (k : Int) := by omega
      have hk1 : (k : Int) < (n : Int) := by omega
      have hkc : k < cap := by omega
      have hbk := HAB.out.cell? k
      rw [List.getElem?_map, List.getElem?_eq_getElem (by have := HBL.out; omega)] at hbk
      simp only [Option.map_some] at hbk
      obtain ⟨bv, hbv⟩ : ∃ bv, wr.cell? ⟨HB, k, none⟩ = some (.bool bv) := ⟨_, hbk⟩
      clear hcc1 hbk hx1
      cases bv with
      | true =>
        clear hk
        go_wp2_with fail
        go_roundw
        case rel => exact ⟨q + 1, u, C, H, bs, by omega, by go_num, rfl, HU, HCL, HBL, HAC, HAB, HBE⟩
        case measure => simp [intOf]; omega
      | false =>
        have hfk := HAB.out.free k
        have hcl := HCL.out.1
        obtain ⟨u', hu'⟩ : ∃ u', u' = u - 1 := ⟨_, rfl⟩
        have hwu : IntKind.i64.wrap ((u : Int) - 1) = (u' : Int) := by rw [IntKind.wrap_i64]; omega
        have HU2 : Hid ((k :: H).length + u' ≤ most) := Lib.hid (by have := HU.out; rw [List.length_cons]; omega)
        have HBL2 : Hid ((bs.set k true).length = n) := Lib.hid (by rw [List.length_set]; exact HBL.out)
        have hxl := HCL.out.2.1 k
        obtain ⟨x, hx⟩ : ∃ x, x = nth C k := ⟨_, rfl⟩
        rw [← hx] at hxl
        have HAC9 : Hid (Arr (wr.setCell ⟨HB, k, none⟩ (.bool true)) 3 CB (ints C ++ spare)) := Lib.hid (HAC.out.mod (Mod.set1 wr HB k _) (fun h => hHBn h))
        have HAB9 : Hid (Arr (wr.setCell ⟨HB, k, none⟩ (.bool true)) 4 HB ((bs.set k true).map Value.bool)) := Lib.hid (by rw [List.map_set]; exact HAB.out.set_ k (.bool true))
        have HB9 := Lib.hid (HBE.out.setCell (p := ⟨HB, k, none⟩) hsz1 (.bool true))
        have hAr9 : Arr (wr.setCell ⟨HB, k, none⟩ (.bool true)) 31 w.heap.size [.int .i64 F.prim, .int .i64 F.size, .int .i64 F.base] := hAr2.mod (Mod.set1 wr HB k _) (fun h => by have := HSZ.out; omega)
        obtain ⟨c0, c1, c2⟩ := fcells hAr9
        clear c0 c2
        have e1 : (wr.setCell ⟨HB, k, none⟩ (.bool true)).cell? ⟨CB, k, none⟩ = some (.int .i64 (x : Nat)) := by rw [HAC9.out.cell? k, intsS_get spare (by omega), hx]
        have e3 := HAC9.out.free k
        obtain ⟨s1, hs1⟩ : ∃ s1, s1 = F.size - 1 := ⟨_, rfl⟩
        have es : IntKind.i64.wrap ((F.size : Int) - 1) = (s1 : Int) := by rw [IntKind.wrap_i64]; omega
        have hs10 : ¬ (s1 : Int) = 0 := by omega
        have hs11 : ¬ s1 = 0 := by omega
        clear hAr2 hAr9
        by_cases hy2 : q < n2
        · have hy3 : (q : Int) < (n2 : Int) := by omega
          obtain ⟨bl2, o2, hA2, hbb2, hcc2⟩ := ((HR2.out.below HB0.out).below HB9.out) (by omega)
          subst hA2
          have hck2 := hcc2 q hy2
          dsimp only at hck2
          obtain ⟨y, hy⟩ : ∃ y : Nat, (y : Int) = z2 q := ⟨(z2 q).toNat, by have := HZ2.out q hy2; omega⟩
          have hyl : y ≤ 65535 := by have := HZ2.out q hy2; omega
          rw [← hy] at hck2
          obtain ⟨r, hr⟩ : ∃ r, r = y % s1 := ⟨_, rfl⟩
          have hrl : r < s1 := by rw [hr]; exact Nat.mod_lt _ (by omega)
          have er : (y : Int).tmod (s1 : Int) = (r : Int) := by rw [Int.tmod_eq_emod_of_nonneg (by omega), hr]; simp
          have er2 := fun W => rem_runH (y : Int) (s1 : Int) (r : Int) hs10 er W
          clear hcc2 hy
          obtain ⟨e, he⟩ : ∃ e, e = 1 + r := ⟨_, rfl⟩
          have ee : IntKind.i64.wrap (1 + (r : Int)) = (e : Int) := by rw [IntKind.wrap_i64]; omega
          have hel : e < F.size := by omega
          have hxor := i64_xor x e (by omega) (by omega)
          have hvl := xor_lt_size hF hxl hel
          obtain ⟨v, hv⟩ : ∃ v, v = x ^^^ e := ⟨_, rfl⟩
          rw [← hv] at hxor hvl
          have HAC10 : Hid (Arr ((wr.setCell ⟨HB, k, none⟩ (.bool true)).setCell ⟨CB, k, none⟩ (.int .i64 (v : Nat))) 3 CB (ints (C.set k v) ++ spare)) := Lib.hid (by rw [← intsS_set spare (by omega) v]; exact HAC9.out.set_ k _)
          have HAB10 : Hid (Arr ((wr.setCell ⟨HB, k, none⟩ (.bool true)).setCell ⟨CB, k, none⟩ (.int .i64 (v : Nat))) 4 HB ((bs.set k true).map Value.bool)) := Lib.hid (HAB9.out.mod (Mod.set1 _ CB k _) (fun h => hHBn h.symm))
          have HB10 := Lib.hid (HB9.out.setCell (p := ⟨CB, k, none⟩) hlb (.int .i64 (v : Nat)))
          have HCL2 : Hid ((C.set k v).length = n ∧ El F (C.set k v) ∧ ∀ j, j < n → j ∉ k :: H → nth (C.set k v) j = nth L j) := Lib.hid ⟨by rw [List.length_set]; exact HCL.out.1, el_set hF HCL.out.2.1 hvl, fun j hj hm => by
            rw [nth_set (by rw [HCL.out.1]; omega), if_neg (fun e => hm (by rw [e]; simp))]
            exact HCL.out.2.2 j hj (fun h => hm (by simp [h]))⟩
          clear he hv hr hx hk hu' hs1
          go_wp2_with fail
          go_region_law (fail)
          all_goals
            go_wp2_with fail
            go_roundw
            case rel => exact ⟨q + 1, u', C.set k v, k :: H, bs.set k true, by omega, by go_num, rfl, HU2, HCL2, HBL2, Lib.hid HAC10.out, Lib.hid HAB10.out, Lib.hid (below_drewN HB10.out _)⟩
            case measure => simp [intOf]; omega
        · have hy3 : ((q : Int) < (n2 : Int)) = False := by simp; omega
          have er : (0 : Int).tmod (s1 : Int) = ((0 : Nat) : Int) := by simp
          have er2 := fun W => rem_runH (0 : Int) (s1 : Int) ((0 : Nat) : Int) hs10 er W
          obtain ⟨r, hr⟩ : ∃ r : Nat, r = 0 := ⟨_, rfl⟩
          rw [← hr] at er er2
          have hrl : r < s1 := by omega
          obtain ⟨e, he⟩ : ∃ e, e = 1 + r := ⟨_, rfl⟩
          have ee : IntKind.i64.wrap (1 + (r : Int)) = (e : Int) := by rw [IntKind.wrap_i64]; omega
          have hel : e < F.size := by omega
          have hxor := i64_xor x e (by omega) (by omega)
          have hvl := xor_lt_size hF hxl hel
          obtain ⟨v, hv⟩ : ∃ v, v = x ^^^ e := ⟨_, rfl⟩
          rw [← hv] at hxor hvl
          have HAC10 : Hid (Arr ((wr.setCell ⟨HB, k, none⟩ (.bool true)).setCell ⟨CB, k, none⟩ (.int .i64 (v : Nat))) 3 CB (ints (C.set k v) ++ spare)) := Lib.hid (by rw [← intsS_set spare (by omega) v]; exact HAC9.out.set_ k _)
          have HAB10 : Hid (Arr ((wr.setCell ⟨HB, k, none⟩ (.bool true)).setCell ⟨CB, k, none⟩ (.int .i64 (v : Nat))) 4 HB ((bs.set k true).map Value.bool)) := Lib.hid (HAB9.out.mod (Mod.set1 _ CB k _) (fun h => hHBn h.symm))
          have HB10 := Lib.hid (HB9.out.setCell (p := ⟨CB, k, none⟩) hlb (.int .i64 (v : Nat)))
          have HCL2 : Hid ((C.set k v).length = n ∧ El F (C.set k v) ∧ ∀ j, j < n → j ∉ k :: H → nth (C.set k v) j = nth L j) := Lib.hid ⟨by rw [List.length_set]; exact HCL.out.1, el_set hF HCL.out.2.1 hvl, fun j hj hm => by
            rw [nth_set (by rw [HCL.out.1]; omega), if_neg (fun e => hm (by rw [e]; simp))]
            exact HCL.out.2.2 j hj (fun h => hm (by simp [h]))⟩
          clear he hv hr hx hk hu' hs1
          go_wp2_with fail
          go_region_law (fail)
          all_goals
            go_wp2_with fail
            go_roundw
            case rel => exact ⟨q + 1, u', C.set k v, k :: H, bs.set k true, by omega, by go_num, rfl, HU2, HCL2, HBL2, Lib.hid HAC10.out, Lib.hid HAB10.out, Lib.hid (below_drewN HB10.out _)⟩
            case measure => simp [intOf]; omega
    · obtain hno | hno : (q : Int) < (n1 : Int) ∧ u = 0 ∨ ((q : Int) < (n1 : Int)) = False := by
        by_cases h : q < n1
        · exact .inl ⟨by omega, by omega⟩
        · exact .inr (by simp; omega)
      all_goals
        have HAN : Hid (SlQ wr (fun _ => True) (some ⟨CB, 0, none⟩) C cap) := Lib.hid ⟨by have := HCL.out.1; omega, fun _ => ⟨CB, 0, rfl, trivial, HAC.out.lt, fun j hj => by rw [Nat.zero_add, HAC.out.cell? j]; exact intsS_get spare hj⟩⟩
        clear hAr2
      · obtain ⟨hlt1, rfl⟩ := hno
        have hn1 : (0 : Int) < (n : Int) := by omega
        go_wp2_with fail
        go_ret
        exact ⟨C, H, _, cap, rfl, HAN.out, HCL.out.1, HCL.out.2.1, by have := HU.out; omega, HCL.out.2.2, HB0.out.trans (HBE.out.mono HB0.out.size)⟩
      · go_wp2_with fail
        go_ret
        exact ⟨C, H, _, cap, rfl, HAN.out, HCL.out.1, HCL.out.2.1, by have := HU.out; omega, HCL.out.2.2, HB0.out.trans (HBE.out.mono HB0.out.size)⟩
end Go.Proofs.Ytiielblnmfeapaa
