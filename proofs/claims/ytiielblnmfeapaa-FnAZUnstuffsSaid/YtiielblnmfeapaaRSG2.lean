/-
  MultiplyBy and NewReedSolomonDecoder, walked. No condition beyond the bounds that each theorem states.
-/
import Derived.Test.YtiielblnmfeapaaRSG1
namespace Go.Proofs.Ytiielblnmfeapaa
open Go.RowKit Go.Qz Go.Qz.RS
set_option linter.unusedVariables false

theorem shfL_one {F : Fld} (h : Six F) {l : List Nat} (hl : El F l) (ht : tidy l = l) : shfL F l 0 1 = l := by
  unfold shfL
  rw [if_neg (by omega), List.replicate_zero, List.append_nil]
  have : l.map (fun x => mul F x 1) = l := by
    apply List.ext_getElem (by simp)
    intro i h1 h2
    rw [List.getElem_map]
    have := hl i
    rw [nth_eq h2] at this
    exact mul_one h this
  rw [this, ht]
theorem co_by {F : Fld} (h : Six F) {l : List Nat} (hl : El F l) (c n : Nat) : co (shfL F l 0 c) n = mul F (co l n) c := by
  rw [co_shfL h hl]
  unfold shf
  rw [if_pos (Nat.zero_le _)]; rfl

set_option maxRecDepth 100000 in
set_option maxHeartbeats 1600000 in
theorem polyBy (Q : Nat → Prop) (F : Fld) (hF : Six F) (p f c : Nat) (l : List Nat) (hc : c < F.size) (hc0 : c ≠ 0) (hl : El F l) (ht : tidy l = l) (hll : l.length < 100000) (w : World) (hQ : ∀ k, w.heap.size ≤ k → Q k) (hp : PolyQ w Q p f l) (hg : GFQ w Q f F) :
    Calls Try.prog 78 #[.pointer (some ⟨p, 0, none⟩), .int .i64 c] w fun e w' => ∃ r, e = .returned (.pointer (some ⟨r, 0, none⟩)) ∧ PolyQ w' Q r f (shfL F l 0 c) ∧ Below w.heap.size w w' := by
  have hs := hF.bounds
  have HPP := Lib.hid hp
  have HGG := Lib.hid hg
  have HQH := Lib.hid hQ
  clear hQ
  obtain ⟨⟨cb, off, cap, h1, h2, h3, h4, h5⟩, hp1, hpne⟩ := hp
  have c0 : w.cell? ⟨p, 0, none⟩ = some (.pointer (some ⟨f, 0, none⟩)) := by rw [cell_of_row w p 0 _ _ _ h1]; rfl
  have c1 : w.cell? ⟨p, 1, none⟩ = some (.slice (some ⟨cb, off, none⟩) l.length cap) := by rw [cell_of_row w p 1 _ _ _ h1]; rfl
  have hlp := HPP.out.lt
  have hlpos := List.length_pos_iff.2 hpne
  have H5 := Lib.hid h5
  clear h5 h1 hg
  by_cases hc11 : c = 1
  · subst hc11
    have HS := Lib.hid (shfL_one hF hl ht)
    rw [show ((1 : Nat) : Int) = 1 from rfl]
    clear ht
    go_enter Try.func78, Try.ntmps78
    go_wp2_with fail
    go_ret
    exact ⟨p, rfl, by rw [HS.out]; exact HPP.out, Below.refl _ _⟩
  · have hc1 : ((c : Int) == 0) = false := by simpa using hc0
    have hc12 : ((c : Int) == 1) = false := by simp; omega
    have hsh : shfL F l 0 c = tidy (l.map (fun x => mul F x c) ++ List.replicate 0 0) := by unfold shfL; rw [if_neg hc0]
    rw [← upTo_shf] at hsh
    obtain ⟨g, hgd⟩ : ∃ g : Nat → Nat, g = fun j => mul F (nth l j) c := ⟨_, rfl⟩
    rw [← hgd] at hsh
    have HSH := Lib.hid hsh
    have HGD := Lib.hid hgd
    clear hsh hgd hc0
    rw [Nat.add_zero] at HSH
    have hmk := fun W => run_make1 (P := Try.prog) 25 3 (.int .i64 0) 8 Try.underlying25 Try.infoInt rfl (by decide) l.length (by omega) .i64 .i64 (l.length : Int) rfl W
    have hI := IA.zeros w 3 l.length
    rw [← upTo_zero l.length g] at hI
    have hb0 : Below w.heap.size w (w.alloc (.cells (zeros l.length (.int .i64 0)) 3)) := (Below.refl _ _).alloc (Nat.le_refl _) _
    go_enter Try.func78, Try.ntmps78
    go_wp2_with fail
    obtain ⟨M, hM⟩ : ∃ M, M = w.heap.size := ⟨_, rfl⟩
    rw [← hM] at hI hb0 h3 hlp ⊢
    have HMM := Lib.hid hM
    clear hM hmk
    go_loopw [7] (fun i wr => ∃ j : Nat, j ≤ l.length ∧ i = .int .i64 j ∧ IA wr 3 M (upTo l.length g j) ∧ Below M w wr) (fun i _ => l.length - (intOf i).toNat)
    case atStart => exact ⟨0, by omega, rfl, hI, hb0⟩
    case round =>
      obtain ⟨j, hj, rfl, hI2, hbel⟩ := hrel
      clear hI hb0
      by_cases hlt : j < l.length
      · have hfz := hI2.free j
        have hj0 : (0 : Int) ≤ (j : Int) := by omega
        have hj1 : (j : Int) < (l.length : Int) := by omega
        have hj2 : j < l.length := by omega
        have hul := upTo_length l.length g j
        have hz := hI2.cell (j := j) (by omega)
        rw [upTo_nth _ _ _ _ (by omega), if_neg (by omega)] at hz
        have hI3 := hI2.set_ j (g j)
        rw [upTo_set] at hI3
        have hgj : g j = mul F (nth l j) c := by rw [HGD.out]
        obtain ⟨v, hv⟩ : ∃ v, v = g j := ⟨_, rfl⟩
        rw [← hv] at hI3 hgj
        have hb3 := hbel.setCell (p := ⟨M, j, none⟩) (Nat.le_refl _) (.int .i64 (v : Nat))
        have hS : ∀ W : World, Below M w W → (W.cell? ⟨p, 0, none⟩ = some (.pointer (some ⟨f, 0, none⟩)) ∧ W.cell? ⟨p, 1, none⟩ = some (.slice (some ⟨cb, off, none⟩) l.length cap) ∧ W.cell? ⟨cb, off + j, none⟩ = some (.int .i64 (nth l j : Nat)) ∧ Hid (Below M w W)) := fun W hW =>
          ⟨(hW.cell (p := ⟨p, 0, none⟩) hlp).trans c0, (hW.cell (p := ⟨p, 1, none⟩) hlp).trans c1, (hW.cell (p := ⟨cb, off + j, none⟩) h3).trans (H5.out j hlt), Lib.hid hW⟩
        have HX := Lib.hid (fun (W : World) (hW : W.cell? ⟨p, 0, none⟩ = some (.pointer (some ⟨f, 0, none⟩)) ∧ W.cell? ⟨p, 1, none⟩ = some (.slice (some ⟨cb, off, none⟩) l.length cap) ∧ W.cell? ⟨cb, off + j, none⟩ = some (.int .i64 (nth l j : Nat)) ∧ Hid (Below M w W)) =>
          (gfMul Q F hF f (nth l j) c (hl j) hc W (HGG.out.below (by rw [← HMM.out]; exact hW.2.2.2.out))).mono (R' := fun e w' => e = .returned (.int .i64 (v : Nat)) ∧ ∃ n, w' = W.drewN n) (by rintro e w' ⟨rfl, n, rfl⟩; exact ⟨by rw [hgj], n, rfl⟩))
        have hs0 := hS _ hbel.drew
        have hs2 := hS _ hb3
        have hs3 := fun n => hS _ (below_drewN hb3 n)
        have hs4 := fun n => hS _ (below_drewN hbel n)
        have d0 := hs0.1
        have d1 := hs0.2.1
        have d2 := hs0.2.2.1
        have HI3 := Lib.hid hI3
        have HB3 := Lib.hid hb3
        clear hI2 hI3 hb3 hul hgj hv hbel
        go_wp2_with fail
        go_region_held3 (fun w' => w'.cell? ⟨p, 0, none⟩ = some (.pointer (some ⟨f, 0, none⟩)) ∧ w'.cell? ⟨p, 1, none⟩ = some (.slice (some ⟨cb, off, none⟩) l.length cap) ∧ w'.cell? ⟨cb, off + j, none⟩ = some (.int .i64 (nth l j : Nat)) ∧ Hid (Below M w w'))
          (first | exact hs0 | exact hs2 | exact hs3 _ | exact hs4 _ | go_keep)
          (first | (go_at_call 69; refine (HX.out _ (by assumption)).mono ?_; rintro e w3 ⟨rfl, n, rfl⟩))
        go_wp2_with fail
        go_roundw
        case rel => exact ⟨j + 1, by omega, by go_num, HI3.out.mod (Mod.drewN (Mod.refl (S := fun _ => False) _) _) (fun h => h), below_drewN HB3.out _⟩
        case measure => simp [intOf]; omega
      · obtain rfl : j = l.length := by omega
        have c0' : wr.cell? ⟨p, 0, none⟩ = some (.pointer (some ⟨f, 0, none⟩)) := (hbel.cell (p := ⟨p, 0, none⟩) hlp).trans c0
        have hul := upTo_length l.length g l.length
        have hsl : SlQ wr Q (some ⟨M, 0, none⟩) (upTo l.length g l.length) l.length := ⟨by omega, fun _ => ⟨M, 0, rfl, HQH.out _ (by rw [← HMM.out]; exact Nat.le_refl _), hI2.lt, fun j hj => by rw [Nat.zero_add]; exact hI2.cell hj⟩⟩
        have hsz : M ≤ wr.heap.size := Nat.le_of_lt hI2.lt
        have hne : upTo l.length g l.length ≠ [] := by intro e; rw [e] at hul; simp at hul; omega
        have HT := poly_new Q f (some ⟨M, 0, none⟩) (upTo l.length g l.length) l.length wr (fun k hk => HQH.out k (by have := HMM.out; omega)) hne (by omega) hsl
        rw [hul, ← HSH.out] at HT
        have HT := Lib.hid HT
        clear hI2 hul hsl hne
        go_wp2_with fail
        refine HT.out.mono ?_
        rintro e w' ⟨r, rfl, hr, hb, _⟩
        go_wp2_with fail
        go_ret
        exact ⟨r, rfl, hr, by rw [← HMM.out]; exact hbel.trans (hb.mono hsz)⟩
end Go.Proofs.Ytiielblnmfeapaa
