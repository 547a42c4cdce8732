/-
  Several texts of this claim in one. No condition beyond the bounds that each theorem states.
-/
import Derived.Test.YtiielblnmfeapaaGreatDoorRSD6
import Derived.Test.YtiielblnmfeapaaGreatDoorGFH
import Derived.BigRegion
import Derived.Deep.RegionLaw
import Derived.Deep.DrawnRows
import Derived.Test.YtiielblnmfeapaaGreatDoorGRD
import Derived.Deep.RegionHeld3
import Derived.Test.YtiielblnmfeapaaGreatDoorRSK
import Derived.Laws.CopyOwn
namespace Go.Proofs.YtiielblnmfeapaaGreatDoor
open Go.RowKit Go.Qz Go.Qz.RS
set_option linter.unusedVariables false

set_option maxRecDepth 100000 in
set_option maxHeartbeats 3200000 in
theorem polyMul (Q : Nat → Prop) (F : Fld) (hF : Six F) (p q f : Nat) (a b : List Nat) (hal : a.length < 10000) (hbl : b.length < 10000) (hae : El F a) (hbe : El F b) (hta : tidy a = a) (htb : tidy b = b) (w : World) (hQ : ∀ k, w.heap.size ≤ k → Q k)
    (hp : PolyQ w Q p f a) (hq : PolyQ w Q q f b) (hg : GFQ w Q f F) :
    Calls Tryz.prog 114 #[.pointer (some ⟨p, 0, none⟩), .pointer (some ⟨q, 0, none⟩)] w fun e w' => ∃ r, e = .returned (.tuple #[.pointer (some ⟨r, 0, none⟩), .nilIface]) ∧ PolyQ w' Q r f (prod F a b) ∧ Below w.heap.size w w' := by
  have hs := hF.bounds
  have HPP := Lib.hid hp
  have HQQ := Lib.hid hq
  obtain ⟨⟨ab, ao, acap, h1, h2, hab, h4, h5⟩, hp1, hpne⟩ := hp
  obtain ⟨⟨bb, bo, bcap, h1', h2', hbb, h4', h5'⟩, hq1, hqne⟩ := hq
  have c0 : w.cell? ⟨p, 0, none⟩ = some (.pointer (some ⟨f, 0, none⟩)) := by rw [cell_of_row w p 0 _ _ _ h1]; rfl
  have c1 : w.cell? ⟨p, 1, none⟩ = some (.slice (some ⟨ab, ao, none⟩) a.length acap) := by rw [cell_of_row w p 1 _ _ _ h1]; rfl
  have d0 : w.cell? ⟨q, 0, none⟩ = some (.pointer (some ⟨f, 0, none⟩)) := by rw [cell_of_row w q 0 _ _ _ h1']; rfl
  have d1 : w.cell? ⟨q, 1, none⟩ = some (.slice (some ⟨bb, bo, none⟩) b.length bcap) := by rw [cell_of_row w q 1 _ _ _ h1']; rfl
  have hap := List.length_pos_iff.2 hpne
  have hbp := List.length_pos_iff.2 hqne
  have hpl := HPP.out.lt
  have hql := HQQ.out.lt
  have H5 := Lib.hid h5
  have H5' := Lib.hid h5'
  have HAE := Lib.hid hae
  have HBE := Lib.hid hbe
  have HTA := Lib.hid hta
  have HTB := Lib.hid htb
  have HG := Lib.hid hg
  have HQH := Lib.hid hQ
  have hneq := fun W => ptr_neq f W
  obtain ⟨za, hza⟩ : ∃ za, (((nth a 0 : Nat) : Int) == 0) = za := ⟨_, rfl⟩
  obtain ⟨zb, hzb⟩ : ∃ zb, (((nth b 0 : Nat) : Int) == 0) = zb := ⟨_, rfl⟩
  have HZ := Lib.hid (fun W hW => polyIsZero Q p f a za hza W hW (by omega))
  have HZ' := Lib.hid (fun W hW => polyIsZero Q q f b zb hzb W hW (by omega))
  have HZA := Lib.hid hza
  have HZB := Lib.hid hzb
  clear h1 h1' h5 h5' hae hbe hta htb hza hzb hg hQ
  go_enter Tryz.func114, Tryz.ntmps114
  go_wp2_with fail
  go_quiet (fail)
  obtain ⟨w2, hw2⟩ : ∃ w2, w2 = w.drewN nq := ⟨_, rfl⟩
  have hb2 : Below w.heap.size w w2 := by rw [hw2]; exact below_drewN (Below.refl _ _) _
  have hsz2 : w2.heap.size = w.heap.size := by rw [hw2]; rfl
  rw [← hw2]
  replace c0 := (hb2.cell (p := ⟨p, 0, none⟩) hpl).trans c0
  replace c1 := (hb2.cell (p := ⟨p, 1, none⟩) hpl).trans c1
  replace d1 := (hb2.cell (p := ⟨q, 1, none⟩) hql).trans d1
  have HW := Lib.hid hw2
  have HSZ := Lib.hid hsz2
  have HB2 := Lib.hid hb2
  clear hw2 d0 hneq hsz2 hb2
  go_wp2_with fail
  refine (HZ.out _ (HPP.out.below HB2.out)).mono ?_
  rintro e w1 ⟨rfl, rfl⟩
  have HZE := Lib.hid (gfZero Q F f w2 (HG.out.below HB2.out))
  cases za with
  | true =>
    have ha0 : a = [0] := by
      have h0 : nth a 0 = 0 := by have := HZA.out; simpa using this
      rw [← HTA.out] at h0 ⊢
      exact tidy_head a hpne h0
    have hpl2 : prod F a b = [0] := by rw [ha0]; exact prod_zero hF HBE.out hqne
    have HPL := Lib.hid hpl2
    clear ha0 hpl2
    go_wp2_with fail
    refine HZE.out.mono ?_
    rintro e w' ⟨⟨z, rfl, hz⟩, rfl⟩
    have HZZ := Lib.hid hz
    clear hz
    go_wp2_with fail
    go_ret2
    exact ⟨z, rfl, by rw [HPL.out]; exact HZZ.out, HB2.out⟩
  | false =>
    go_wp2_with fail
    refine (HZ'.out _ (HQQ.out.below HB2.out)).mono ?_
    rintro e w1 ⟨rfl, rfl⟩
    cases zb with
    | true =>
      have hb0 : b = [0] := by
        have h0 : nth b 0 = 0 := by have := HZB.out; simpa using this
        rw [← HTB.out] at h0 ⊢
        exact tidy_head b hqne h0
      have hpl2 : prod F a b = [0] := by rw [hb0]; exact prod_zero' hF HAE.out hpne
      have HPL := Lib.hid hpl2
      clear hb0 hpl2
      go_wp2_with fail
      refine HZE.out.mono ?_
      rintro e w' ⟨⟨z, rfl, hz⟩, rfl⟩
      have HZZ := Lib.hid hz
      clear hz
      go_wp2_with fail
      go_ret2
      exact ⟨z, rfl, by rw [HPL.out]; exact HZZ.out, HB2.out⟩
    | false =>
      obtain ⟨N, hN⟩ : ∃ N, N = a.length + b.length - 1 := ⟨_, rfl⟩
      have eN : (a.length : Int) + (b.length : Int) - 1 = (N : Int) := by omega
      have hN1 : N < 20000 := by omega
      have HN := Lib.hid hN
      have HN2 : Hid (∀ i k, i < a.length → k < b.length → i + k < N) := Lib.hid (by omega)
      have hmk := fun W => run_make1 (P := Tryz.prog) 24 3 (.int .i64 0) 8 Tryz.underlying24 Tryz.infoInt rfl (by decide) N (by omega) .i64 .i64 (N : Int) rfl W
      have hI := IA.zeros w2 3 N
      have hB : Below w.heap.size w (w2.alloc (.cells (zeros N (.int .i64 0)) 3)) := HB2.out.alloc HB2.out.size _
      have h0 : List.replicate N 0 = prows F a b 0 := by rw [prows, HN.out]
      rw [h0] at hI
      clear hN h0 HZE HZ HZ' HZA HZB HTA HTB
      go_wp2_with fail
      rw [HSZ.out] at hI ⊢
      obtain ⟨W3, hW3⟩ : ∃ W3, W3 = w2.alloc (.cells (zeros N (.int .i64 0)) 3) := ⟨_, rfl⟩
      rw [← hW3] at hI hB ⊢
      obtain ⟨M, hM⟩ : ∃ M, M = w.heap.size := ⟨_, rfl⟩
      rw [← hM] at hI hB hab hbb hpl hql ⊢
      have HMM := Lib.hid hM
      have HC : Hid (w.cell? ⟨p, 0, none⟩ = some (.pointer (some ⟨f, 0, none⟩))) := Lib.hid (by have := HB2.out.cell (p := ⟨p, 0, none⟩) (by rw [← HMM.out]; exact hpl); rw [← this]; exact c0)
      clear hW3 hM hmk c0 c1 d1
      go_loopw [11] (fun i wr => ∃ k : Nat, k ≤ a.length ∧ i = .int .i64 k ∧ IA wr 3 M (prows F a b k) ∧ Below M w wr) (fun i _ => a.length - (intOf i).toNat)
      case atStart => exact ⟨0, by omega, rfl, hI, hB⟩
      case round =>
        obtain ⟨i, hi, rfl, hI2, hB2⟩ := hrel
        clear hI hB
        by_cases hlt : i < a.length
        · have hI2 : IA wr 3 M (prow F a b i (prows F a b i) 0) := hI2
          have cA : wr.cell? ⟨ab, ao + i, none⟩ = some (.int .i64 (nth a i : Nat)) := (hB2.cell (p := ⟨ab, ao + i, none⟩) hab).trans (H5.out i hlt)
          have hi0 : (0 : Int) ≤ (i : Int) := by omega
          have hi1 : (i : Int) < (a.length : Int) := by omega
          go_wp2_with fail
          obtain ⟨W4, hW4⟩ : ∃ W4, W4 = wr := ⟨_, rfl⟩
          rw [← hW4] at hI2 hB2 ⊢
          clear hW4 cA
          go_loopw [13] (fun i' wr => ∃ k : Nat, k ≤ b.length ∧ i' = .int .i64 k ∧ IA wr 3 M (prow F a b i (prows F a b i) k) ∧ Below M w wr) (fun i _ => b.length - (intOf i).toNat)
          case atStart => exact ⟨0, by omega, rfl, hI2, hB2⟩
          case round =>
            obtain ⟨k, hk, rfl, hI3, hbel⟩ := hrel
            clear hI2 hB2
            by_cases hltk : k < b.length
            · have hpl3 : (prow F a b i (prows F a b i) k).length = N := by rw [prow_length, prows_length]; exact HN.out.symm
              have hij := HN2.out i k hlt hltk
              have hz := hI3.cell (j := i + k) (by omega)
              have hfz := hI3.free (i + k)
              have hol : nth (prow F a b i (prows F a b i) k) (i + k) < F.size := prow_lt hF HAE.out HBE.out i _ (prows_el hF HAE.out HBE.out i (by omega)) k (by rw [prows_length, ← HN.out]; omega) _
              have hml := mul_lt hF (b := nth b k) (HAE.out i)
              have hst : (prow F a b i (prows F a b i) k).set (i + k) (nth (prow F a b i (prows F a b i) k) (i + k) ^^^ mul F (nth a i) (nth b k)) = prow F a b i (prows F a b i) (k + 1) := rfl
              obtain ⟨o, ho⟩ : ∃ o, o = nth (prow F a b i (prows F a b i) k) (i + k) := ⟨_, rfl⟩
              obtain ⟨m, hm⟩ : ∃ m, m = mul F (nth a i) (nth b k) := ⟨_, rfl⟩
              rw [← ho] at hz hol
              rw [← hm] at hml
              obtain ⟨ik, hik⟩ : ∃ ik, ik = i + k := ⟨_, rfl⟩
              rw [← hik] at hz hfz hij
              obtain ⟨v, hv⟩ : ∃ v, v = o ^^^ m := ⟨_, rfl⟩
              have HXA := Lib.hid (fun W => gfAdd o m v hv.symm (by omega) (by omega) W)
              have eik : (i : Int) + (k : Int) = (ik : Int) := by omega
              have hij0 : (0 : Int) ≤ (ik : Int) := by omega
              have hij1 : (ik : Int) < (N : Int) := by omega
              have hk0 : (0 : Int) ≤ (k : Int) := by omega
              have hk1 : (k : Int) < (b.length : Int) := by omega
              have hwr : IntKind.i64.wrap (ik : Int) = (ik : Int) := by rw [IntKind.wrap_i64]; omega
              have hst2 : (prow F a b i (prows F a b i) k).set ik v = prow F a b i (prows F a b i) (k + 1) := by rw [hv, ho, hm, hik]; exact hst
              have hI4 := hI3.set_ ik v
              rw [hst2] at hI4
              have hb3 := hbel.setCell (p := ⟨M, ik, none⟩) (Nat.le_refl _) (.int .i64 (v : Nat))
              have cP := (hbel.cell (p := ⟨p, 0, none⟩) hpl).trans HC.out
              have cB := (hbel.cell (p := ⟨bb, bo + k, none⟩) hbb).trans (H5'.out k hltk)
              have HX := Lib.hid (fun (W : World) (hW : Below M w W) =>
                (gfMul Q F hF f (nth a i) (nth b k) (HAE.out i) (HBE.out k) W (HG.out.below (by rw [← HMM.out]; exact hW))).mono (R' := fun e w' => e = .returned (.int .i64 (m : Nat)) ∧ ∃ n, w' = W.drewN n) (by rintro e w' ⟨rfl, n, rfl⟩; exact ⟨by rw [hm], n, rfl⟩))
              have HBD := Lib.hid hbel.drew
              have HI4 := Lib.hid hI4
              have HB3 := Lib.hid hb3
              clear hI3 hI4 hb3 hpl3 hst hst2 hol hml hbel hm ho hv hik
              go_wp2_with fail
              go_region_law (first | (go_simp; go_at_call 106; refine (HX.out _ HBD.out).mono ?_; rintro e w3 ⟨rfl, n, rfl⟩) | (go_simp; go_at_call 97; refine (HXA.out _).mono ?_; rintro e w3 ⟨rfl, rfl⟩))
              all_goals
                go_wp2_with fail
                go_roundw
                case rel => exact ⟨k + 1, by omega, by go_num, HI4.out.mod (Mod.drewN (Mod.refl (S := fun _ => False) _) _) (fun h => h), below_drewN HB3.out _⟩
                case measure => simp [intOf]; omega
            · obtain rfl : k = b.length := by omega
              have HI3 : Hid (IA wr 3 M (prows F a b (i + 1))) := Lib.hid hI3
              clear hI3
              go_wp2_with fail
              go_roundw
              case rel => exact ⟨i + 1, by omega, by go_num, HI3.out, hbel⟩
              case measure => simp [intOf]; omega
        · obtain rfl : i = a.length := by omega
          have c0' : wr.cell? ⟨p, 0, none⟩ = some (.pointer (some ⟨f, 0, none⟩)) := (hB2.cell (p := ⟨p, 0, none⟩) hpl).trans HC.out
          have hne : prows F a b a.length ≠ [] := prows_ne hpne hqne _
          have hrl := prows_length F a b a.length
          rw [← HN.out] at hrl
          have hsl : SlQ wr Q (some ⟨M, 0, none⟩) (prows F a b a.length) N := ⟨by omega, fun _ => ⟨M, 0, rfl, HQH.out _ (by rw [← HMM.out]; exact Nat.le_refl _), hI2.lt, fun j hj => by rw [Nat.zero_add]; exact hI2.cell hj⟩⟩
          have hsz : M ≤ wr.heap.size := Nat.le_of_lt hI2.lt
          have HT := poly_new Q f (some ⟨M, 0, none⟩) (prows F a b a.length) N wr (fun k hk => HQH.out k (by have := HMM.out; omega)) hne (by omega) hsl
          have hpd : tidy (prows F a b a.length) = prod F a b := rfl
          rw [hrl, hpd] at HT
          have HT := Lib.hid HT
          clear hI2 hne hrl hpd hsl
          go_wp2_with fail
          refine HT.out.mono ?_
          rintro e w' ⟨r, rfl, hr, hb, _⟩
          go_wp2_with fail
          go_ret2
          exact ⟨r, rfl, hr, by rw [← HMM.out]; exact hB2.trans (hb.mono hsz)⟩
end Go.Proofs.YtiielblnmfeapaaGreatDoor
namespace Go.Proofs.YtiielblnmfeapaaGreatDoor
open Go.RowKit Go.Qz Go.Qz.RS
set_option linter.unusedVariables false

theorem PolyQ.bound {w : World} {Q : Nat → Prop} {p f : Nat} {cs : List Nat} (h : PolyQ w Q p f cs) : PolyQ w (fun k => Q k ∧ k < w.heap.size) p f cs := by
  have hl := h.lt
  obtain ⟨⟨cb, off, cap, h1, h2, h3, h4, h5⟩, hp, hne⟩ := h
  exact ⟨⟨cb, off, cap, h1, ⟨h2, h3⟩, h3, h4, h5⟩, ⟨hp, hl⟩, hne⟩
theorem GFQ.imp {w : World} {Q Q' : Nat → Prop} {f : Nat} {F : Fld} (h : GFQ w Q f F) (hq : ∀ k, Q k → Q' k) : GFQ w Q' f F := by
  obtain ⟨⟨eb, lb, z, o, h1, h2, h3, h4, h5, h6, h7⟩, h8⟩ := h
  exact ⟨⟨eb, lb, z, o, h1, h2, hq _ h3, h4, hq _ h5, h6.imp hq, h7.imp hq⟩, hq _ h8⟩
theorem GFQ.bound {w : World} {Q : Nat → Prop} {f : Nat} {F : Fld} (h : GFQ w Q f F) : GFQ w (fun k => Q k ∧ k < w.heap.size) f F := by
  obtain ⟨⟨eb, lb, z, o, h1, h2, h3, h4, h5, h6, h7⟩, h8⟩ := h
  exact ⟨⟨eb, lb, z, o, h1, h2, ⟨h3, h2.lt⟩, h4, ⟨h5, h4.lt⟩, h6.bound, h7.bound⟩, ⟨h8, (Array.getElem?_eq_some_iff.1 h1).1⟩⟩
/-- A new block of two numbers. -/
theorem SlQ.lit2 {w : World} {Q : Nat → Prop} (x y b : Nat) (hb : b = w.heap.size) (hq : Q b) : SlQ (w.alloc (.cells #[.int .i64 (x : Nat), .int .i64 (y : Nat)] 3)) Q (some ⟨b, 0, none⟩) [x, y] 2 := by
  subst hb
  refine ⟨Nat.le_refl _, fun _ => ⟨_, 0, rfl, hq, by simp, fun j hj => ?_⟩⟩
  have : j = 0 ∨ j = 1 := by simp at hj; omega
  rw [World.cell?_alloc_at _ _ _ _ (by simp)]
  rcases this with rfl | rfl <;> rfl

/-- The blocks of an encoder's polynomials: not these. -/
def Away (L e : Nat) (v : Value) (k : Nat) : Prop := k ≠ L ∧ k ≠ e ∧ v.ownBlock ≠ some k
theorem Tryz.infoPoly : (Tryz.prog.info? 151).map (fun i => (i.zero, i.size, i.bytes)) = some (some (.pointer none), 1, 8) := by kernel_rfl

set_option maxRecDepth 100000 in
theorem getBase (Q : Nat → Prop) (F : Fld) (f : Nat) (w : World) (h : GFQ w Q f F) :
    Calls Tryz.prog 90 #[.pointer (some ⟨f, 0, none⟩)] w fun e w' => e = .returned (.int .i64 F.base) ∧ w = w' := by
  obtain ⟨⟨eb, lb, z, o, h1, _⟩, _⟩ := h
  have hc : w.cell? ⟨f, 6, none⟩ = some (.int .i64 F.base) := by rw [cell_of_row w f 6 _ _ _ h1]; rfl
  clear h1
  go_enter Tryz.func90, Tryz.ntmps90
  go_wp2_with fail
  go_ret
  exact ⟨rfl, rfl⟩
end Go.Proofs.YtiielblnmfeapaaGreatDoor
namespace Go.Proofs.YtiielblnmfeapaaGreatDoor
open Go.RowKit Go.Qz Go.Qz.RS
set_option linter.unusedVariables false

theorem tidy_lin (x : Nat) : tidy [1, x] = [1, x] := by simp [tidy]

end Go.Proofs.YtiielblnmfeapaaGreatDoor
namespace Go.Proofs.YtiielblnmfeapaaGreatDoor
open Go.RowKit Go.Qz Go.Qz.RS
set_option linter.unusedVariables false

theorem set_same {α : Type} {l : List α} {i : Nat} {a : α} (h : l[i]? = some a) : l.set i a = l := by
  apply List.ext_getElem?
  intro j
  rw [List.getElem?_set]
  by_cases e : i = j
  · subst e
    rw [if_pos rfl, h]
    have : i < l.length := by
      rcases Nat.lt_or_ge i l.length with h1 | h1
      · exact h1
      · rw [List.getElem?_eq_none h1] at h; cases h
    rw [if_pos this]
  · rw [if_neg e]
/-- So many numbers as values. -/
def ints (l : List Nat) : List Value := l.map fun x : Nat => Value.int .i64 (x : Int)
theorem ints_length (l : List Nat) : (ints l).length = l.length := by simp [ints]
theorem ints_append (a b : List Nat) : ints (a ++ b) = ints a ++ ints b := by simp [ints]
theorem ints_get (l : List Nat) (j : Nat) (hj : j < l.length) : (ints l)[j]? = some (.int .i64 (nth l j : Nat)) := by simp [ints, hj, nth_eq hj]
theorem ints_one (l : List Nat) : ∀ v ∈ ints l, v.oneCell' = true := by
  intro v hv
  obtain ⟨x, _, rfl⟩ := List.mem_map.1 hv
  rfl

def EncPost (F : Fld) (data : List Nat) (ec lb B : Nat) (spare : List Value) (w : World) (en : Ending) (w' : World) : Prop :=
  ∃ q r, en = .returned .nilIface ∧ Arr w' 3 lb (ints (coded data r ec) ++ spare) ∧ El F q ∧ El F r ∧ q ≠ [] ∧ r.length ≤ ec ∧ plus (prod F q (gen F ec)) r = shfL F (tidy data) ec 1 ∧ Below B w w'

end Go.Proofs.YtiielblnmfeapaaGreatDoor
