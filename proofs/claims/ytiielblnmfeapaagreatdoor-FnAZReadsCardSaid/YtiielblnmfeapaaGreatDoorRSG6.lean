/-
  Several texts of this claim in one. No condition beyond the bounds that each theorem states.
-/
import Derived.Test.YtiielblnmfeapaaGreatDoorRSE4
import Derived.Test.YtiielblnmfeapaaGreatDoorGFH
import Derived.Deep.RegionHeld3
import Derived.Test.YtiielblnmfeapaaGreatDoorRSD6
namespace Go.Proofs.YtiielblnmfeapaaGreatDoor
open Go.RowKit Go.Qz Go.Qz.RS
set_option linter.unusedVariables false

set_option maxRecDepth 100000 in
theorem gfSize (Q : Nat → Prop) (F : Fld) (f : Nat) (w : World) (h : GFQ w Q f F) :
    Calls Tryz.prog 116 #[.pointer (some ⟨f, 0, none⟩)] w fun e w' => e = .returned (.int .i64 F.size) ∧ w = w' := by
  obtain ⟨eb, lb, z, c0, c1, _, c4, he, hl, _⟩ := gfq_cells h
  clear h c0 c1 he hl
  go_enter Tryz.func116, Tryz.ntmps116
  go_wp2_with fail
  go_ret
  exact ⟨rfl, rfl⟩
def OnePost (w : World) (Q : Nat → Prop) (f : Nat) (e : Ending) (w' : World) : Prop := ∃ o, e = .returned (.pointer (some ⟨o, 0, none⟩)) ∧ PolyQ w Q o f [1] ∧ w = w'
set_option maxRecDepth 100000 in
theorem gfOne (Q : Nat → Prop) (F : Fld) (f : Nat) (w : World) (h : GFQ w Q f F) :
    Calls Tryz.prog 109 #[.pointer (some ⟨f, 0, none⟩)] w (OnePost w Q f) := by
  obtain ⟨⟨eb, lb, z, o, h1, _, _, _, _, _, ho⟩, _⟩ := h
  have hc : w.cell? ⟨f, 3, none⟩ = some (.pointer (some ⟨o, 0, none⟩)) := by rw [cell_of_row w f 3 _ _ _ h1]; rfl
  have HO := Lib.hid ho
  clear h1 ho
  go_enter Tryz.func109, Tryz.ntmps109
  go_wp2_with fail
  go_ret
  exact ⟨o, rfl, HO.out, rfl⟩

theorem El.take {F : Fld} (h : Six F) {l : List Nat} (hl : El F l) (k : Nat) : El F (l.take k) := fun j => by
  have hs := h.bounds
  by_cases hj : j < (l.take k).length
  · rw [nth_eq hj, List.getElem_take]
    have := hl j
    rw [nth_eq (by simp at hj; omega)] at this
    exact this
  · rw [nth_past (by omega)]; omega
set_option maxRecDepth 100000 in
set_option maxHeartbeats 3200000 in
theorem polyAt (Q : Nat → Prop) (F : Fld) (hF : Six F) (p f a : Nat) (A : Int) (hA : A = a) (l : List Nat) (ha : a < F.size) (ha0 : a ≠ 0) (hl : El F l) (hn : l.length < 10000) (w : World) (h : PolyQ w Q p f l) (hg : GFQ w Q f F) :
    Calls Tryz.prog 88 #[.pointer (some ⟨p, 0, none⟩), .int .i64 A] w fun e w' => e = .returned (.int .i64 (ev F l a : Nat)) ∧ ∃ n, w' = w.drewN n := by
  subst hA
  have hs := hF.bounds
  have HGG := Lib.hid hg
  obtain ⟨⟨cb, off, cap, h1, h2, h3, h4, h5⟩, hp, hne⟩ := h
  have c0 : w.cell? ⟨p, 0, none⟩ = some (.pointer (some ⟨f, 0, none⟩)) := by rw [cell_of_row w p 0 _ _ _ h1]; rfl
  have c1 : w.cell? ⟨p, 1, none⟩ = some (.slice (some ⟨cb, off, none⟩) l.length cap) := by rw [cell_of_row w p 1 _ _ _ h1]; rfl
  have hpos := List.length_pos_iff.2 hne
  have H5 := Lib.hid h5
  have HL := Lib.hid hl
  have HST : Hid (∀ k, k < l.length → ev F (l.take (k + 1)) a = mul F a (ev F (l.take k) a) ^^^ nth l k) := Lib.hid (fun k hk => by rw [take_nth hk, ev_snoc hF (El.take hF hl k) (hl k) ha])
  have HEL : Hid (∀ k, ev F (l.take k) a < F.size) := Lib.hid (fun k => ev_lt hF (El.take hF hl k) a)
  have HEND : Hid (ev F (l.take l.length) a = ev F l a) := Lib.hid (by rw [List.take_length])
  have c5 := h5 0 hpos
  rw [Nat.add_zero] at c5
  clear h1 h5 hg hl
  have ha1 : ((a : Int) == 0) = false := by simpa using ha0
  by_cases h11 : a = 1
  · subst h11
    rw [show ((1 : Nat) : Int) = 1 from rfl] at ha1 ⊢
    go_enter Tryz.func88, Tryz.ntmps88
    go_wp2_with fail
    go_loop [5, 22] (fun r i => ∃ k : Nat, k ≤ l.length ∧ i = .int .i64 k ∧ r = .int .i64 (ev F (l.take k) 1 : Nat)) (fun _ i => l.length - (intOf i).toNat)
    case atStart => exact ⟨0, by omega, rfl, rfl⟩
    case round =>
      obtain ⟨k, hk, rfl, rfl⟩ := hrel
      clear c5
      by_cases hlt : k < l.length
      · have hlt1 : (k : Int) < (l.length : Int) := by omega
        have cz := H5.out k hlt
        have hst := HST.out k hlt
        have hel := HEL.out k
        rw [one_mul hF hel] at hst
        obtain ⟨x, hx⟩ : ∃ x, x = ev F (l.take k) 1 := ⟨_, rfl⟩
        obtain ⟨y, hy⟩ : ∃ y, y = ev F (l.take (k + 1)) 1 := ⟨_, rfl⟩
        have hcl := HL.out k
        obtain ⟨c, hc⟩ : ∃ c, c = nth l k := ⟨_, rfl⟩
        rw [← hc] at cz hst hcl
        rw [← hx] at hst hel ⊢
        rw [← hy] at hst
        have HXA := Lib.hid (fun W => gfAdd x c y hst.symm (by omega) (by omega) W)
        have HY : Hid (ev F (l.take (k + 1)) 1 = y) := Lib.hid hy.symm
        clear hst hx hy hc
        go_wp2_with fail
        refine (HXA.out _).mono ?_
        rintro e w1 ⟨rfl, rfl⟩
        go_wp2_with fail
        go_round
        case rel => exact ⟨k + 1, by omega, by go_num, by rw [HY.out]⟩
        case measure => simp [intOf]; omega
      · obtain rfl : k = l.length := by omega
        rw [HEND.out]
        go_wp2_with fail
        go_ret
        exact ⟨rfl, 0, rfl⟩
  · have ha2 : ((a : Int) == 1) = false := by simp; omega
    have HONE : Hid (ev F (l.take 1) a = nth l 0) := Lib.hid (by
      have e := HST.out 0 hpos
      rw [Nat.zero_add] at e
      rw [e]
      show mul F a 0 ^^^ _ = _
      rw [mul_zero hF ha, Nat.zero_xor])
    clear ha0 h11
    go_enter Tryz.func88, Tryz.ntmps88
    go_wp2_with fail
    clear c5
    go_loopw [8, 10] (fun r i wr => ∃ k m : Nat, 1 ≤ k ∧ k ≤ l.length ∧ i = .int .i64 k ∧ r = .int .i64 (ev F (l.take k) a : Nat) ∧ wr = w.drewN m) (fun _ i _ => l.length - (intOf i).toNat)
    case atStart => exact ⟨1, 0, by omega, by omega, rfl, by rw [HONE.out], rfl⟩
    case round =>
      obtain ⟨k, m, hk1, hk, rfl, rfl, hwr⟩ := hrel
      have b0 : wr.cell? ⟨p, 0, none⟩ = some (.pointer (some ⟨f, 0, none⟩)) := by rw [hwr]; exact c0
      have b1 : wr.cell? ⟨p, 1, none⟩ = some (.slice (some ⟨cb, off, none⟩) l.length cap) := by rw [hwr]; exact c1
      have HGW : Hid (GFQ wr Q f F) := Lib.hid (by rw [hwr]; exact HGG.out.drewN _)
      have HWR := Lib.hid hwr
      by_cases hlt : k < l.length
      · have hlt1 : (k : Int) < (l.length : Int) := by omega
        have hk0 : (0 : Int) ≤ (k : Int) := by omega
        have cz : wr.cell? ⟨cb, off + k, none⟩ = some (.int .i64 (nth l k : Nat)) := by rw [hwr]; exact H5.out k hlt
        have hst := HST.out k hlt
        have hel := HEL.out k
        clear hwr
        obtain ⟨x, hx⟩ : ∃ x, x = ev F (l.take k) a := ⟨_, rfl⟩
        obtain ⟨y, hy⟩ : ∃ y, y = ev F (l.take (k + 1)) a := ⟨_, rfl⟩
        have hcl := HL.out k
        obtain ⟨c, hc⟩ : ∃ c, c = nth l k := ⟨_, rfl⟩
        rw [← hc] at cz hst hcl
        rw [← hx] at hst hel ⊢
        rw [← hy] at hst
        have hml := mul_lt hF (b := x) ha
        have HMU := Lib.hid (fun W hW => gfMul Q F hF f a x ha hel W hW)
        obtain ⟨t, ht⟩ : ∃ t, t = mul F a x := ⟨_, rfl⟩
        rw [← ht] at HMU hst hml
        have HXA := Lib.hid (fun W => gfAdd t c y hst.symm (by omega) (by omega) W)
        have HY : Hid (ev F (l.take (k + 1)) a = y) := Lib.hid hy.symm
        clear hst hx hy hc ht
        go_wp2_with fail
        go_quiet ((first | (go_at_call 106; exact quietN (HMU.out _ (HGW.out.drewN _))) | (go_at_call 97; exact quietL (HXA.out _))))
        go_wp2_with fail
        go_roundw
        case rel => exact ⟨k + 1, _, by omega, by omega, by go_num, by rw [HY.out], by rw [HWR.out, World.drewN_drewN]⟩
        case measure => simp [intOf]; omega
      · obtain rfl : k = l.length := by omega
        rw [HEND.out]
        clear hwr
        go_wp2_with fail
        go_ret
        exact ⟨rfl, m, HWR.out⟩
end Go.Proofs.YtiielblnmfeapaaGreatDoor
namespace Go.Proofs.YtiielblnmfeapaaGreatDoor
open Go.RowKit Go.Qz Go.Qz.RS
set_option linter.unusedVariables false

theorem shfL_one {F : Fld} (h : Six F) {l : List Nat} (hl : El F l) (ht : tidy l = l) : shfL F l 0 1 = l := by
  unfold shfL
  rw [if_neg (by omega), List.replicate_zero, List.append_nil]
  have : l.map (fun x => mul F x 1) = l := by
    apply List.ext_getElem (by simp)
    intro i h1 h2
    rw [List.getElem_map]
    have := hl i
    rw [nth_eq h2] at this
    exact mul_one h this
  rw [this, ht]
theorem co_by {F : Fld} (h : Six F) {l : List Nat} (hl : El F l) (c n : Nat) : co (shfL F l 0 c) n = mul F (co l n) c := by
  rw [co_shfL h hl]
  unfold shf
  rw [if_pos (Nat.zero_le _)]; rfl

set_option maxRecDepth 100000 in
set_option maxHeartbeats 1600000 in
theorem polyBy (Q : Nat → Prop) (F : Fld) (hF : Six F) (p f c : Nat) (l : List Nat) (hc : c < F.size) (hc0 : c ≠ 0) (hl : El F l) (ht : tidy l = l) (hll : l.length < 100000) (w : World) (hQ : ∀ k, w.heap.size ≤ k → Q k) (hp : PolyQ w Q p f l) (hg : GFQ w Q f F) :
    Calls Tryz.prog 115 #[.pointer (some ⟨p, 0, none⟩), .int .i64 c] w fun e w' => ∃ r, e = .returned (.pointer (some ⟨r, 0, none⟩)) ∧ PolyQ w' Q r f (shfL F l 0 c) ∧ Below w.heap.size w w' := by
  have hs := hF.bounds
  have HPP := Lib.hid hp
  have HGG := Lib.hid hg
  have HQH := Lib.hid hQ
  clear hQ
  obtain ⟨⟨cb, off, cap, h1, h2, h3, h4, h5⟩, hp1, hpne⟩ := hp
  have c0 : w.cell? ⟨p, 0, none⟩ = some (.pointer (some ⟨f, 0, none⟩)) := by rw [cell_of_row w p 0 _ _ _ h1]; rfl
  have c1 : w.cell? ⟨p, 1, none⟩ = some (.slice (some ⟨cb, off, none⟩) l.length cap) := by rw [cell_of_row w p 1 _ _ _ h1]; rfl
  have hlp := HPP.out.lt
  have hlpos := List.length_pos_iff.2 hpne
  have H5 := Lib.hid h5
  clear h5 h1 hg
  by_cases hc11 : c = 1
  · subst hc11
    have HS := Lib.hid (shfL_one hF hl ht)
    rw [show ((1 : Nat) : Int) = 1 from rfl]
    clear ht
    go_enter Tryz.func115, Tryz.ntmps115
    go_wp2_with fail
    go_ret
    exact ⟨p, rfl, by rw [HS.out]; exact HPP.out, Below.refl _ _⟩
  · have hc1 : ((c : Int) == 0) = false := by simpa using hc0
    have hc12 : ((c : Int) == 1) = false := by simp; omega
    have hsh : shfL F l 0 c = tidy (l.map (fun x => mul F x c) ++ List.replicate 0 0) := by unfold shfL; rw [if_neg hc0]
    rw [← upTo_shf] at hsh
    obtain ⟨g, hgd⟩ : ∃ g : Nat → Nat, g = fun j => mul F (nth l j) c := ⟨_, rfl⟩
    rw [← hgd] at hsh
    have HSH := Lib.hid hsh
    have HGD := Lib.hid hgd
    clear hsh hgd hc0
    rw [Nat.add_zero] at HSH
    have hmk := fun W => run_make1 (P := Tryz.prog) 24 3 (.int .i64 0) 8 Tryz.underlying24 Tryz.infoInt rfl (by decide) l.length (by omega) .i64 .i64 (l.length : Int) rfl W
    have hI := IA.zeros w 3 l.length
    rw [← upTo_zero l.length g] at hI
    have hb0 : Below w.heap.size w (w.alloc (.cells (zeros l.length (.int .i64 0)) 3)) := (Below.refl _ _).alloc (Nat.le_refl _) _
    go_enter Tryz.func115, Tryz.ntmps115
    go_wp2_with fail
    obtain ⟨M, hM⟩ : ∃ M, M = w.heap.size := ⟨_, rfl⟩
    rw [← hM] at hI hb0 h3 hlp ⊢
    have HMM := Lib.hid hM
    clear hM hmk
    go_loopw [7] (fun i wr => ∃ j : Nat, j ≤ l.length ∧ i = .int .i64 j ∧ IA wr 3 M (upTo l.length g j) ∧ Below M w wr) (fun i _ => l.length - (intOf i).toNat)
    case atStart => exact ⟨0, by omega, rfl, hI, hb0⟩
    case round =>
      obtain ⟨j, hj, rfl, hI2, hbel⟩ := hrel
      clear hI hb0
      by_cases hlt : j < l.length
      · have hfz := hI2.free j
        have hj0 : (0 : Int) ≤ (j : Int) := by omega
        have hj1 : (j : Int) < (l.length : Int) := by omega
        have hj2 : j < l.length := by omega
        have hul := upTo_length l.length g j
        have hz := hI2.cell (j := j) (by omega)
        rw [upTo_nth _ _ _ _ (by omega), if_neg (by omega)] at hz
        have hI3 := hI2.set_ j (g j)
        rw [upTo_set] at hI3
        have hgj : g j = mul F (nth l j) c := by rw [HGD.out]
        obtain ⟨v, hv⟩ : ∃ v, v = g j := ⟨_, rfl⟩
        rw [← hv] at hI3 hgj
        have hb3 := hbel.setCell (p := ⟨M, j, none⟩) (Nat.le_refl _) (.int .i64 (v : Nat))
        have hS : ∀ W : World, Below M w W → (W.cell? ⟨p, 0, none⟩ = some (.pointer (some ⟨f, 0, none⟩)) ∧ W.cell? ⟨p, 1, none⟩ = some (.slice (some ⟨cb, off, none⟩) l.length cap) ∧ W.cell? ⟨cb, off + j, none⟩ = some (.int .i64 (nth l j : Nat)) ∧ Hid (Below M w W)) := fun W hW =>
          ⟨(hW.cell (p := ⟨p, 0, none⟩) hlp).trans c0, (hW.cell (p := ⟨p, 1, none⟩) hlp).trans c1, (hW.cell (p := ⟨cb, off + j, none⟩) h3).trans (H5.out j hlt), Lib.hid hW⟩
        have HX := Lib.hid (fun (W : World) (hW : W.cell? ⟨p, 0, none⟩ = some (.pointer (some ⟨f, 0, none⟩)) ∧ W.cell? ⟨p, 1, none⟩ = some (.slice (some ⟨cb, off, none⟩) l.length cap) ∧ W.cell? ⟨cb, off + j, none⟩ = some (.int .i64 (nth l j : Nat)) ∧ Hid (Below M w W)) =>
          (gfMul Q F hF f (nth l j) c (hl j) hc W (HGG.out.below (by rw [← HMM.out]; exact hW.2.2.2.out))).mono (R' := fun e w' => e = .returned (.int .i64 (v : Nat)) ∧ ∃ n, w' = W.drewN n) (by rintro e w' ⟨rfl, n, rfl⟩; exact ⟨by rw [hgj], n, rfl⟩))
        have hs0 := hS _ hbel.drew
        have hs2 := hS _ hb3
        have hs3 := fun n => hS _ (below_drewN hb3 n)
        have hs4 := fun n => hS _ (below_drewN hbel n)
        have d0 := hs0.1
        have d1 := hs0.2.1
        have d2 := hs0.2.2.1
        have HI3 := Lib.hid hI3
        have HB3 := Lib.hid hb3
        clear hI2 hI3 hb3 hul hgj hv hbel
        go_wp2_with fail
        go_region_held3 (fun w' => w'.cell? ⟨p, 0, none⟩ = some (.pointer (some ⟨f, 0, none⟩)) ∧ w'.cell? ⟨p, 1, none⟩ = some (.slice (some ⟨cb, off, none⟩) l.length cap) ∧ w'.cell? ⟨cb, off + j, none⟩ = some (.int .i64 (nth l j : Nat)) ∧ Hid (Below M w w'))
          (first | exact hs0 | exact hs2 | exact hs3 _ | exact hs4 _ | go_keep)
          (first | (go_at_call 106; refine (HX.out _ (by assumption)).mono ?_; rintro e w3 ⟨rfl, n, rfl⟩))
        go_wp2_with fail
        go_roundw
        case rel => exact ⟨j + 1, by omega, by go_num, HI3.out.mod (Mod.drewN (Mod.refl (S := fun _ => False) _) _) (fun h => h), below_drewN HB3.out _⟩
        case measure => simp [intOf]; omega
      · obtain rfl : j = l.length := by omega
        have c0' : wr.cell? ⟨p, 0, none⟩ = some (.pointer (some ⟨f, 0, none⟩)) := (hbel.cell (p := ⟨p, 0, none⟩) hlp).trans c0
        have hul := upTo_length l.length g l.length
        have hsl : SlQ wr Q (some ⟨M, 0, none⟩) (upTo l.length g l.length) l.length := ⟨by omega, fun _ => ⟨M, 0, rfl, HQH.out _ (by rw [← HMM.out]; exact Nat.le_refl _), hI2.lt, fun j hj => by rw [Nat.zero_add]; exact hI2.cell hj⟩⟩
        have hsz : M ≤ wr.heap.size := Nat.le_of_lt hI2.lt
        have hne : upTo l.length g l.length ≠ [] := by intro e; rw [e] at hul; simp at hul; omega
        have HT := poly_new Q f (some ⟨M, 0, none⟩) (upTo l.length g l.length) l.length wr (fun k hk => HQH.out k (by have := HMM.out; omega)) hne (by omega) hsl
        rw [hul, ← HSH.out] at HT
        have HT := Lib.hid HT
        clear hI2 hul hsl hne
        go_wp2_with fail
        refine HT.out.mono ?_
        rintro e w' ⟨r, rfl, hr, hb, _⟩
        go_wp2_with fail
        go_ret
        exact ⟨r, rfl, hr, by rw [← HMM.out]; exact hbel.trans (hb.mono hsz)⟩
end Go.Proofs.YtiielblnmfeapaaGreatDoor
namespace Go.Proofs.YtiielblnmfeapaaGreatDoor
open Go.RowKit Go.Qz Go.Qz.RS
set_option linter.unusedVariables false

theorem loc_len {F : Fld} {h : Six F} {J ls : List Nat} (hJ : ∀ j ∈ J, j < F.size - 1) (ht : tidy ls = ls) (hn : ls ≠ []) (hc : ∀ n, co ls n = (loc J : Ser F h).c n) : ls.length = J.length + 1 := by
  have h1 := loc_top (h := h) J hJ
  rw [← hc] at h1
  have h2 : J.length < ls.length := by
    rcases Nat.lt_or_ge J.length ls.length with h3 | h3
    · exact h3
    · exact absurd (co_past h3) h1
  rcases Nat.lt_or_ge (J.length + 1) ls.length with h3 | h3
  · exfalso
    have h0 : ls ≠ [0] := by intro e; rw [e] at h3; simp at h3
    have := co_top ht hn h0
    rw [hc, loc_deg J _ (by omega)] at this
    exact this rfl
  · omega
theorem loc_one {F : Fld} {h : Six F} (j : Nat) : (loc [j] : Ser F h).c 1 = ex F j := by
  show (li (ex F j) (exl h j) * on : Ser F h).c 1 = _
  rw [mul_on, li_1]
/-- The places found, as the program lays them. -/
def exs (F : Fld) (K : List Nat) : List Nat := K.map (ex F)
theorem exs_length (F : Fld) (K : List Nat) : (exs F K).length = K.length := by simp [exs]
theorem exs_nth (F : Fld) (K : List Nat) (m : Nat) (hm : m < K.length) : nth (exs F K) m = ex F (nth K m) := by
  unfold exs
  rw [nth_map _ _ _ hm]
theorem exs_set (F : Fld) (K : List Nat) (j n : Nat) (hn : K.length < n) : (exs F K ++ List.replicate (n - K.length) 0).set K.length (ex F j) = exs F (K ++ [j]) ++ List.replicate (n - (K ++ [j]).length) 0 := by
  obtain ⟨m, hm⟩ : ∃ m, n - K.length = m + 1 := ⟨n - K.length - 1, by omega⟩
  rw [hm, List.replicate_succ, List.set_append_right _ _ (by rw [exs_length]; exact Nat.le_refl _), exs_length, Nat.sub_self, List.set_cons_zero]
  have h2 : n - (K ++ [j]).length = m := by rw [List.length_append, List.length_singleton]; omega
  rw [h2]
  simp [exs]

def LocPost (F : Fld) (J : List Nat) (w : World) (e : Ending) (w' : World) : Prop :=
  ∃ K A c, e = .returned (.tuple #[.slice A K.length c, .nilIface]) ∧ K.Perm J ∧ SlQ w' (fun k => w.heap.size ≤ k) A (exs F K) c ∧ Below w.heap.size w w'

set_option maxRecDepth 100000 in
set_option maxHeartbeats 6400000 in
theorem findLocs (F : Fld) (hF : Six F) (J : List Nat) (D ps f : Nat) (ls : List Nat) (nd : J.Nodup) (hJ : ∀ j ∈ J, j < F.size - 1) (hJl : J.length ≤ 1000) (ht : tidy ls = ls) (hn : ls ≠ []) (hle : El F ls) (hc : ∀ n, co ls n = (loc J : Ser F hF).c n)
    (w : World) (hD : Arr w 150 D [.pointer (some ⟨f, 0, none⟩)]) (hp : PolyQ w (fun _ => True) ps f ls) (hg : GFQ w (fun _ => True) f F) :
    Calls Tryz.prog 93 #[.pointer (some ⟨D, 0, none⟩), .pointer (some ⟨ps, 0, none⟩)] w (LocPost F J w) := by
  have hs := hF.bounds
  have hll := loc_len hJ ht hn hc
  have c0 := hD.cell? 0
  simp only [List.getElem?_cons_zero] at c0
  have hDl := hD.lt
  have HD := Lib.hid hD
  have HP := Lib.hid hp
  have HG := Lib.hid hg
  have HJ := Lib.hid hJ
  have HND := Lib.hid nd
  have HC := Lib.hid hc
  have HDE := Lib.hid (polyDegree (fun _ => True) ps f ls w hp (by omega))
  rw [hll, Nat.add_sub_cancel] at HDE
  obtain ⟨ν, hν⟩ : ∃ ν, ν = J.length := ⟨_, rfl⟩
  rw [← hν] at HDE hll hJl
  have HN := Lib.hid hν
  by_cases h1 : ν = 1
  · obtain ⟨j, hj⟩ : ∃ j, J = [j] := List.length_eq_one_iff.1 (by omega)
    have hcj : nth ls (ls.length - 1 - 1) = ex F j := by
      have e1 : co ls 1 = nth ls (ls.length - 1 - 1) := by unfold co; rw [if_pos (by omega)]
      rw [← e1, hc, hj, loc_one]
    have HCo := Lib.hid (polyCoef (fun _ => True) ps f ls 1 1 rfl (ex F j) hcj (by omega) w hp (by omega))
    have HJJ := Lib.hid hj
    obtain ⟨x, hx⟩ : ∃ x, x = ex F j := ⟨_, rfl⟩
    rw [← hx] at HCo
    have HX := Lib.hid hx
    subst h1
    rw [show ((1 : Nat) : Int) = 1 from rfl] at HDE
    clear hD hp hg hJ nd hc hν hcj hj hx
    go_enter Tryz.func93, Tryz.ntmps93
    go_wp2_with fail
    refine HDE.out.mono ?_
    rintro e w1 ⟨rfl, rfl⟩
    go_wp2_with fail
    refine HCo.out.mono ?_
    rintro e w1 ⟨rfl, n1, rfl⟩
    have HB := Lib.hid ((below_drewN (Below.refl w.heap.size w) n1).alloc (Nat.le_refl _) (.cells #[.int .i64 (x : Nat)] 3))
    have HSL : Hid (SlQ ((w.drewN n1).alloc (.cells #[.int .i64 (x : Nat)] 3)) (fun k => w.heap.size ≤ k) (some ⟨w.heap.size, 0, none⟩) [x] 1) := Lib.hid (SlQ.lit x _ rfl (Nat.le_refl _))
    go_wp2_with fail
    go_ret2
    refine ⟨[j], _, 1, rfl, by rw [HJJ.out], ?_, HB.out⟩
    have : exs F [j] = [x] := by rw [HX.out]; rfl
    rw [this]
    exact HSL.out
  · have h11 : ((ν : Int) == 1) = false := by simp; omega
    have hmk := fun W => run_make1 (P := Tryz.prog) 24 3 (.int .i64 0) 8 Tryz.underlying24 Tryz.infoInt rfl (by decide) ν (by omega) .i64 .i64 (ν : Int) rfl W
    have hI := IA.zeros w 3 ν
    have hb0 : Below w.heap.size w (w.alloc (.cells (zeros ν (.int .i64 0)) 3)) := (Below.refl _ _).alloc (Nat.le_refl _) _
    have HLE := Lib.hid hle
    have HF0 := Lib.hid (RS.Found.start hF hJ)
    clear hD hp hg hJ nd hc hν h1 hle
    go_enter Tryz.func93, Tryz.ntmps93
    go_wp2_with fail
    refine HDE.out.mono ?_
    rintro e w1 ⟨rfl, rfl⟩
    go_wp2_with fail
    obtain ⟨W3, hW3⟩ : ∃ W3, W3 = w.alloc (.cells (zeros ν (.int .i64 0)) 3) := ⟨_, rfl⟩
    rw [← hW3] at hI hb0 ⊢
    obtain ⟨R, hR⟩ : ∃ R, R = w.heap.size := ⟨_, rfl⟩
    rw [← hR] at hI hb0 hDl ⊢
    have HRR := Lib.hid hR
    clear hW3 hR hmk c0 HDE
    go_loopw [8, 9] (fun c i wr => ∃ (x m : Nat) (K : List Nat), 1 ≤ x ∧ x ≤ F.size ∧ i = .int .i64 x ∧ c = .int .i64 m ∧ Hid (m = K.length) ∧ m ≤ ν ∧ Hid (RS.Found F J K x) ∧ Hid (IA wr 3 R (exs F K ++ List.replicate (ν - K.length) 0)) ∧ Hid (Below R w wr)) (fun _ i _ => F.size - (intOf i).toNat)
    case atStart => exact ⟨1, 0, [], by omega, by omega, rfl, rfl, Lib.hid rfl, by omega, HF0, Lib.hid (by simpa [exs] using hI), Lib.hid hb0⟩
    case round =>
      obtain ⟨x, m, K, hx1, hx2, rfl, rfl, HM, hmν, HFD, HIA, HB⟩ := hrel
      clear hI hb0 HF0
      have HBW : Hid (Below w.heap.size w wr) := Lib.hid (by rw [← HRR.out]; exact HB.out)
      have c0 : wr.cell? ⟨D, 0, none⟩ = some (.pointer (some ⟨f, 0, none⟩)) := by
        have := (HB.out.cell (p := ⟨D, 0, none⟩) hDl).trans (HD.out.cell? 0)
        simpa using this
      have HG1 := Lib.hid (HG.out.below HBW.out)
      have HP1 := Lib.hid (HP.out.below HBW.out)
      have HSZ := Lib.hid (gfSize (fun _ => True) F f wr HG1.out)
      by_cases hxl : x < F.size
      · have hxl1 : (x : Int) < (F.size : Int) := by omega
        by_cases hml : m < ν
        · have hml1 : (m : Int) < (ν : Int) := by omega
          have hm0 : (0 : Int) ≤ (m : Int) := by omega
          have hev : ev F ls x = lev F x J := by
            rw [ev_ser (h := hF) HC.out (loc_deg J) x, loc_at hxl]
          have HAT := polyAt (fun _ => True) F hF ps f x (x : Int) rfl ls hxl (by omega) HLE.out (by omega) wr HP1.out HG1.out
          rw [hev] at HAT
          have HAT := Lib.hid HAT
          clear hev
          by_cases hz : lev F x J = 0
          · obtain ⟨j, hj, hej, hfd⟩ := RS.Found.hit hF HJ.out hxl (by omega) hz HFD.out
            rw [hz, show ((0 : Nat) : Int) = 0 from rfl] at HAT
            have HFD2 := Lib.hid hfd
            have HINV := Lib.hid (fun W hW => gfInv (fun _ => True) F hF f x hxl (by omega) W hW)
            rw [← hej] at HINV
            have hlen : (exs F K ++ List.replicate (ν - K.length) 0).length = ν := by rw [List.length_append, exs_length, List.length_replicate]; have := HM.out; omega
            have HSET : Hid ((exs F K ++ List.replicate (ν - K.length) 0).set m (ex F j) = exs F (K ++ [j]) ++ List.replicate (ν - (K ++ [j]).length) 0) := Lib.hid (by rw [HM.out]; exact exs_set F K j ν (by have := HM.out; omega))
            obtain ⟨old, hold⟩ : ∃ old, old = nth (exs F K ++ List.replicate (ν - K.length) 0) m := ⟨_, rfl⟩
            have hcell := HIA.out.cell (j := m) (by omega)
            rw [← hold] at hcell
            have hfree := HIA.out.free m
            have hex := exl hF j
            have HML : Hid (m + 1 = (K ++ [j]).length) := Lib.hid (by rw [List.length_append, List.length_singleton, HM.out])
            obtain ⟨v, hv⟩ : ∃ v, v = ex F j := ⟨_, rfl⟩
            rw [← hv] at HINV HSET
            have hneq2 : ∀ W, (binOp .neq 44 .nilIface .nilIface).run Tryz.prog W = .ok (.bool false) W := fun W => rfl
            clear hz hj hej hfd hlen hold hv HFD
            go_wp2_with fail
            refine HSZ.out.mono ?_
            rintro e w1 ⟨rfl, rfl⟩
            go_wp2_with fail
            refine HAT.out.mono ?_
            rintro e w1 ⟨rfl, n1, rfl⟩
            have b0 : (wr.drewN n1).cell? ⟨D, 0, none⟩ = some (.pointer (some ⟨f, 0, none⟩)) := c0
            go_wp2_with fail
            refine (HINV.out _ (HG1.out.drewN n1)).mono ?_
            rintro e w1 ⟨rfl, n2, rfl⟩
            have HB2 : Hid (Below R w (((wr.drewN n1).drewN n2).setCell ⟨R, m, none⟩ (.int .i64 (v : Nat)))) := Lib.hid ((below_drewN (below_drewN HB.out n1) n2).setCell (p := ⟨R, m, none⟩) (Nat.le_refl _) _)
            have HIA2 : Hid (IA (((wr.drewN n1).drewN n2).setCell ⟨R, m, none⟩ (.int .i64 (v : Nat))) 3 R (exs F (K ++ [j]) ++ List.replicate (ν - (K ++ [j]).length) 0)) := Lib.hid (by
              have h1 : IA ((wr.drewN n1).drewN n2) 3 R (exs F K ++ List.replicate (ν - K.length) 0) := HIA.out
              have := h1.set_ m v
              rw [HSET.out] at this
              exact this)
            have d1 : ((wr.drewN n1).drewN n2).cell? ⟨R, m, none⟩ = some (.int .i64 (old : Nat)) := hcell
            have d2 : ((wr.drewN n1).drewN n2).frozen? ⟨R, m, none⟩ = false := hfree
            clear hcell hfree c0 b0 HSZ HAT HINV HG1 HP1 HBW HIA HB
            obtain ⟨W5, hW5⟩ : ∃ W5, W5 = (wr.drewN n1).drewN n2 := ⟨_, rfl⟩
            rw [← hW5] at HB2 HIA2 d1 d2 ⊢
            clear hW5
            go_wp2_with fail
            go_roundw
            case rel => exact ⟨x + 1, m + 1, K ++ [j], by omega, by omega, by go_num, by go_num, HML, by omega, HFD2, HIA2, HB2⟩
            case measure => simp [intOf]; omega
          · have HFD2 := Lib.hid (RS.Found.skip hF HJ.out hxl hz HFD.out)
            have hzz : (((lev F x J : Nat) : Int) == 0) = false := by simpa using hz
            have hlv := lev_lt hF x J
            obtain ⟨v, hv⟩ : ∃ v, v = lev F x J := ⟨_, rfl⟩
            rw [← hv] at HAT hzz
            clear hz hv HFD hlv
            go_wp2_with fail
            refine HSZ.out.mono ?_
            rintro e w1 ⟨rfl, rfl⟩
            go_wp2_with fail
            refine HAT.out.mono ?_
            rintro e w1 ⟨rfl, n1, rfl⟩
            have HB2 : Hid (Below R w (wr.drewN n1)) := Lib.hid (below_drewN HB.out n1)
            have HIA2 : Hid (IA (wr.drewN n1) 3 R (exs F K ++ List.replicate (ν - K.length) 0)) := Lib.hid HIA.out
            clear HIA HB c0 HSZ HAT HG1 HP1 HBW
            go_wp2_with fail
            go_roundw
            case rel => exact ⟨x + 1, m, K, by omega, by omega, by go_num, rfl, HM, hmν, HFD2, HIA2, HB2⟩
            case measure => simp [intOf]; omega
        · obtain rfl : m = ν := by omega
          have hml1 : ((m : Int) < (m : Int)) = False := by simp
          have hne : ((m : Int) != (m : Int)) = false := by simp
          have HPM := Lib.hid (HFD.out.full HND.out (by have := HM.out; have := HN.out; omega))
          have HSL : Hid (SlQ wr (fun k => w.heap.size ≤ k) (some ⟨R, 0, none⟩) (exs F K) m) := Lib.hid (by
            have e : exs F K ++ List.replicate (m - K.length) 0 = exs F K := by rw [HM.out, Nat.sub_self]; simp
            have h2 := HIA.out
            rw [e] at h2
            exact ⟨by rw [exs_length]; have := HM.out; omega, fun _ => ⟨R, 0, rfl, by rw [HRR.out]; exact Nat.le_refl _, h2.lt, fun j hj => by rw [Nat.zero_add]; exact h2.cell hj⟩⟩)
          clear hml
          go_wp2_with fail
          refine HSZ.out.mono ?_
          rintro e w1 ⟨rfl, rfl⟩
          go_wp2_with fail
          go_ret2
          exact ⟨K, _, m, by rw [← HM.out]; rfl, HPM.out, HSL.out, HBW.out⟩
      · obtain rfl : x = F.size := by omega
        have hxl1 : ((F.size : Int) < (F.size : Int)) = False := by simp
        have HPM := Lib.hid (HFD.out.all hF HND.out)
        have hmm : m = ν := by have := HPM.out.length_eq; have := HM.out; have := HN.out; omega
        subst hmm
        have hne : ((m : Int) != (m : Int)) = false := by simp
        have HSL : Hid (SlQ wr (fun k => w.heap.size ≤ k) (some ⟨R, 0, none⟩) (exs F K) m) := Lib.hid (by
          have e : exs F K ++ List.replicate (m - K.length) 0 = exs F K := by rw [HM.out, Nat.sub_self]; simp
          have h2 := HIA.out
          rw [e] at h2
          exact ⟨by rw [exs_length]; have := HM.out; omega, fun _ => ⟨R, 0, rfl, by rw [HRR.out]; exact Nat.le_refl _, h2.lt, fun j hj => by rw [Nat.zero_add]; exact h2.cell hj⟩⟩)
        clear hxl
        go_wp2_with fail
        refine HSZ.out.mono ?_
        rintro e w1 ⟨rfl, rfl⟩
        go_wp2_with fail
        go_ret2
        exact ⟨K, _, m, by rw [← HM.out]; rfl, HPM.out, HSL.out, HBW.out⟩
end Go.Proofs.YtiielblnmfeapaaGreatDoor
namespace Go.Qz.RS
open Go.Qz Go.Proofs.YtiielblnmfeapaaGreatDoor
set_option linter.unusedVariables false
variable {F : Fld}

/-- The syndromes so far, the last one first. -/
def Syl (M : Nat) (s : Nat → Nat) (i : Nat) (X : List Nat) : Prop := X.length = M ∧ ∀ j, j < M → nth X j = if M - 1 - j < i then s (M - 1 - j) else 0
theorem Syl.start (M : Nat) (s : Nat → Nat) : Syl M s 0 (List.replicate M 0) := ⟨by simp, fun j hj => by rw [nth_replicate]; simp⟩
theorem Syl.next {M : Nat} {s : Nat → Nat} {i : Nat} {X : List Nat} (h : Syl M s i X) (hi : i < M) : Syl M s (i + 1) (X.set (M - 1 - i) (s i)) := ⟨by rw [List.length_set]; exact h.1, fun j hj => by
  rw [nth_set (by rw [h.1]; omega)]
  by_cases e : j = M - 1 - i
  · rw [if_pos e, if_pos (by omega), show M - 1 - j = i by omega]
  · rw [if_neg e, h.2 j hj]
    by_cases e2 : M - 1 - j < i
    · rw [if_pos e2, if_pos (by omega)]
    · rw [if_neg e2, if_neg (by omega)]⟩
theorem Syl.co {M : Nat} {s : Nat → Nat} {X : List Nat} (h : Syl M s M X) (n : Nat) : RS.co X n = if n < M then s n else 0 := by
  unfold RS.co
  rw [h.1]
  by_cases e : n < M
  · rw [if_pos e, if_pos e, h.2 _ (by omega), if_pos (by omega), show M - 1 - (M - 1 - n) = n by omega]
  · rw [if_neg e, if_neg e]
theorem Syl.el (hF : Six F) {M : Nat} {s : Nat → Nat} {i : Nat} {X : List Nat} (hs : ∀ i, s i < F.size) (h : Syl M s i X) : El F X := fun j => by
  have := hF.bounds
  by_cases hj : j < M
  · rw [h.2 j hj]
    split
    · exact hs _
    · omega
  · rw [nth_past (by rw [h.1]; omega)]; omega
def synS (hF : Six F) (s : Nat → Nat) (hs : ∀ i, s i < F.size) (M : Nat) : Ser F hF := ⟨fun i => if i < M then s i else 0, fun i => by
  have := hF.bounds
  show (if i < M then s i else 0) < F.size
  split
  · exact hs i
  · omega⟩
theorem Syl.eu (hF : Six F) {M : Nat} {s : Nat → Nat} {X : List Nat} (hs : ∀ i, s i < F.size) (hM : 2 ≤ M) (h : Syl M s M X) : EuInv (synS hF s hs M) M (monL M 1) (tidy X) [0] [1] := by
  have hX : X ≠ [] := by intro e; have := h.1; rw [e] at this; simp at this; omega
  refine EuInv.start (by omega) (El.tidy (h.el hF hs)) (tidy_tidy X) (tidy_ne X hX) ?_ fun n => ?_
  · have := tidy_length X
    rw [h.1] at this; exact this
  · rw [co_tidy, h.co]; rfl
theorem syl_fin (hF : Six F) {Y : Nat → Nat} {hY : ∀ j, Y j < F.size} {b : Nat} (hY0 : ∀ j, Y j ≠ 0) {J : List Nat} (nd : J.Nodup) (hJ : ∀ j ∈ J, j < F.size - 1) (hJb : ∀ j ∈ J, ex F (j * b) ≠ 0) {M : Nat} (hν : 2 * J.length ≤ M) {s : Nat → Nat} (hs : ∀ i, s i < F.size)
    (hss : ∀ i, i < M → s i = (syn Y hY b J : Ser F hF).c i) (rl rr tl tt : List Nat) (I : EuInv (synS hF s hs M) M rl rr tl tt) (he : 2 * (rr.length - 1) < M) :
    ∃ k, k < F.size ∧ k ≠ 0 ∧ (∀ i, RS.co tt i = mul F ((loc J : Ser F hF).c i) k) ∧ (∀ i, RS.co rr i = mul F ((evl Y hY b J : Ser F hF).c i) k) :=
  EuInv.final hY0 nd hJ hJb hν (fun i hi => by show (if i < M then s i else 0) = _; rw [if_pos hi, hss i hi]) (fun i hi => by show (if i < M then s i else 0) = 0; rw [if_neg (by omega)]) I he
theorem sx_syn (hF : Six F) {Y : Nat → Nat} {hY : ∀ j, Y j < F.size} {L R J : List Nat} (hL : El F L) (r : Rcv F Y L R J) (nd : J.Nodup) (hJ : ∀ j ∈ J, j < L.length) {b i : Nat} (h0 : ev F L (ex F (i + b)) = 0) : ev F R (ex F (i + b)) = (syn Y hY b J : Ser F hF).c i := by
  rw [ev_rcv hF hY hL r nd hJ, h0, Nat.zero_xor, syn_c]
theorem el_set (hF : Six F) {C : List Nat} (h : El F C) {p v : Nat} (hv : v < F.size) : El F (C.set p v) := fun i => by
  by_cases hp : p < C.length
  · rw [nth_set hp]
    split
    · exact hv
    · exact h i
  · rw [List.set_eq_of_length_le (by omega)]; exact h i
/-- What the evaluator says at the places found. -/
theorem evl_ev (hF : Six F) {Y : Nat → Nat} {hY : ∀ j, Y j < F.size} {b : Nat} {J K lo : List Nat} (p : K.Perm J) (nd : J.Nodup) (hJ : ∀ j ∈ J, j < F.size - 1) (hc : ∀ n, RS.co lo n = (evl Y hY b J : Ser F hF).c n) :
    ∀ i ∈ K, ev F lo (inv F (ex F i)) = mul F (mul F (Y i) (ex F (i * b))) (levx F (inv F (ex F i)) i K) := fun i hi => by
  have hJi := hJ i (p.mem_iff.1 hi)
  rw [ev_ser (h := hF) (p := evl Y hY b K) (fun n => by rw [hc, evl_perm p]) (evl_deg K)]
  exact evl_at hJi K (p.nodup_iff.2 nd) hi
theorem lo_len (hF : Six F) {Y : Nat → Nat} {hY : ∀ j, Y j < F.size} {b : Nat} {J lo : List Nat} (ht : tidy lo = lo) (hn : lo ≠ []) (hc : ∀ n, RS.co lo n = (evl Y hY b J : Ser F hF).c n) : lo.length ≤ J.length + 1 := by
  have := tidy_le (l := lo) (k := J.length + 1) (by omega) hn (fun n hn => by rw [hc]; exact evl_deg J n (by omega))
  rwa [ht] at this
end Go.Qz.RS
namespace Go.Proofs.YtiielblnmfeapaaGreatDoor
open Go.RowKit Go.Qz Go.Qz.RS
set_option linter.unusedVariables false

theorem intsS_get {C : List Nat} (spare : List Value) {p : Nat} (hp : p < C.length) : (ints C ++ spare)[p]? = some (.int .i64 (nth C p : Nat)) := by
  rw [List.getElem?_append_left (by rw [ints_length]; exact hp)]; exact ints_get C p hp
theorem intsS_set {C : List Nat} (spare : List Value) {p : Nat} (hp : p < C.length) (x : Nat) : (ints C ++ spare).set p (.int .i64 (x : Nat)) = ints (C.set p x) ++ spare := by
  rw [List.set_append_left _ _ (by rw [ints_length]; exact hp)]
  simp [ints, List.map_set]

set_option maxRecDepth 100000 in
set_option maxHeartbeats 1600000 in
theorem gfLogN (Q : Nat → Prop) (F : Fld) (hF : Six F) (f j : Nat) (hj : j < F.size - 1) (w : World) (h : GFQ w Q f F) :
    Calls Tryz.prog 95 #[.pointer (some ⟨f, 0, none⟩), .int .i64 (ex F j : Nat)] w fun e w' => e = .returned (.tuple #[.int .i64 (j : Nat), .nilIface]) ∧ ∃ n, w' = w.drewN n := by
  have hs := hF.bounds
  have hn := exl hF j
  have hn0 := ex_ne hF hj
  have hlg := lg_ex hF hj
  obtain ⟨⟨eb, lb, z, o, h1, _, _, h2, _⟩, _⟩ := h
  have hc : w.cell? ⟨f, 1, none⟩ = some (.slice (some ⟨lb, 0, none⟩) F.size F.size) := by rw [cell_of_row w f 1 _ _ _ h1]; rfl
  obtain ⟨n, hne⟩ : ∃ n, n = ex F j := ⟨_, rfl⟩
  rw [← hne] at hn hn0 hlg ⊢
  have hv : w.cell? ⟨lb, n, none⟩ = some (.int .i64 (lg F n : Nat)) := by
    rw [Arr.cell? h2]
    have hl := logs_length F (F.size - 1)
    rw [List.getElem?_map, List.getElem?_eq_getElem (by omega)]
    simp [lg, List.getD_eq_getElem?_getD, hl, hn]
  rw [hlg] at hv
  have h0 : ((n : Int) == 0) = false := by simpa using hn0
  clear h1 h2 hne hlg
  go_enter Tryz.func95, Tryz.ntmps95
  go_wp2_with fail
  go_ret2
  exact ⟨rfl, 0, rfl⟩
end Go.Proofs.YtiielblnmfeapaaGreatDoor
