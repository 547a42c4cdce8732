/-
  MultiplyByMonomial, walked. No condition beyond the bounds that each theorem states.
-/
import Derived.Test.YtiielblnmfeapaaRSD2
import Derived.Test.YtiielblnmfeapaaGFC
import Derived.Deep.RegionHeld3
namespace Go.Proofs.Ytiielblnmfeapaa
open Go.RowKit Go.Qz Go.Qz.RS
set_option linter.unusedVariables false

/-- A list that is made from the front. -/
def upTo (n : Nat) (g : Nat → Nat) (i : Nat) : List Nat := (List.range n).map fun j => if j < i then g j else 0
theorem upTo_length (n : Nat) (g : Nat → Nat) (i : Nat) : (upTo n g i).length = n := by simp [upTo]
theorem upTo_nth (n : Nat) (g : Nat → Nat) (i j : Nat) (hj : j < n) : nth (upTo n g i) j = if j < i then g j else 0 := nth_map_range _ _ _ hj
theorem upTo_zero (n : Nat) (g : Nat → Nat) : upTo n g 0 = List.replicate n 0 := by
  apply List.ext_getElem?
  intro i
  by_cases hl : i < n
  · simp [upTo, hl]
  · rw [List.getElem?_eq_none (by simpa [upTo] using hl), List.getElem?_eq_none (by simpa using hl)]
theorem upTo_set (n : Nat) (g : Nat → Nat) (i : Nat) : (upTo n g i).set i (g i) = upTo n g (i + 1) := by
  apply List.ext_getElem?
  intro j
  rw [List.getElem?_set]
  by_cases h : j = i
  · subst h
    by_cases hl : j < n <;> simp [upTo, hl]
  · rw [if_neg (fun e => h e.symm)]
    by_cases hl : j < n
    · simp only [upTo, List.getElem?_map, List.getElem?_range hl, Option.map_some]
      by_cases hk : j < i
      · simp [hk, show j < i + 1 by omega]
      · simp [hk, show ¬ j < i + 1 by omega]
    · rw [List.getElem?_eq_none (by simpa [upTo] using hl), List.getElem?_eq_none (by simpa [upTo] using hl)]
theorem upTo_shf (F : Fld) (l : List Nat) (k c : Nat) : upTo (l.length + k) (fun j => mul F (nth l j) c) l.length = l.map (fun x => mul F x c) ++ List.replicate k 0 := by
  apply List.ext_getElem (by simp [upTo])
  intro j h1 h2
  rw [← nth_eq h1, ← nth_eq h2, upTo_nth _ _ _ _ (by simpa [upTo] using h1), nth_append, List.length_map]
  split
  · rw [nth_map _ _ _ (by assumption)]
  · rw [nth_replicate]; split <;> rfl

set_option maxRecDepth 100000 in
set_option maxHeartbeats 1600000 in
theorem polyMonoQ (Q : Nat → Prop) (F : Fld) (hF : Six F) (p f k c : Nat) (l : List Nat) (K : Int) (hK : K = k) (hk : k < 100000) (hc : c < F.size) (hl : El F l) (hll : l.length < 100000) (w : World) (hQ : ∀ k, w.heap.size ≤ k → Q k) (hp : PolyQ w Q p f l) (hg : GFQ w Q f F) :
    Calls Try.prog 76 #[.pointer (some ⟨p, 0, none⟩), .int .i64 K, .int .i64 c] w fun e w' => ∃ r, e = .returned (.tuple #[.pointer (some ⟨r, 0, none⟩), .nilIface]) ∧ PolyQ w' Q r f (shfL F l k c) ∧ Below w.heap.size w w' := by
  subst hK
  have hs := hF.bounds
  have hk0 : ¬ (k : Int) < 0 := by omega
  have HPP := Lib.hid hp
  have HGG := Lib.hid hg
  have HQH := Lib.hid hQ
  clear hQ
  obtain ⟨⟨cb, off, cap, h1, h2, h3, h4, h5⟩, hp1, hpne⟩ := hp
  have c0 : w.cell? ⟨p, 0, none⟩ = some (.pointer (some ⟨f, 0, none⟩)) := by rw [cell_of_row w p 0 _ _ _ h1]; rfl
  have c1 : w.cell? ⟨p, 1, none⟩ = some (.slice (some ⟨cb, off, none⟩) l.length cap) := by rw [cell_of_row w p 1 _ _ _ h1]; rfl
  have hlp := HPP.out.lt
  have hlpos := List.length_pos_iff.2 hpne
  have H5 := Lib.hid h5
  clear h5 h1 hg
  by_cases hc0 : c = 0
  · subst hc0
    have HZ := Lib.hid (gfZero Q F f w HGG.out)
    go_enter Try.func76, Try.ntmps76
    go_wp2_with fail
    refine HZ.out.mono ?_
    rintro e w' ⟨⟨z, rfl, hz⟩, rfl⟩
    have HZZ := Lib.hid hz
    clear hz
    go_wp2_with fail
    go_ret2
    exact ⟨z, rfl, HZZ.out, Below.refl _ _⟩
  · have hc1 : ((c : Int) == 0) = false := by simpa using hc0
    have hsh : shfL F l k c = tidy (l.map (fun x => mul F x c) ++ List.replicate k 0) := by unfold shfL; rw [if_neg hc0]
    rw [← upTo_shf] at hsh
    obtain ⟨g, hgd⟩ : ∃ g : Nat → Nat, g = fun j => mul F (nth l j) c := ⟨_, rfl⟩
    rw [← hgd] at hsh
    have HSH := Lib.hid hsh
    have HGD := Lib.hid hgd
    clear hsh hgd hc0
    obtain ⟨N, hN⟩ : ∃ N, N = l.length + k := ⟨_, rfl⟩
    rw [← hN] at HSH
    have eN : (l.length : Int) + (k : Int) = (N : Int) := by omega
    have hN1 : l.length ≤ N := by omega
    have hN2 : N < 200000 := by omega
    clear hN
    have hmk := fun W => run_make1 (P := Try.prog) 25 3 (.int .i64 0) 8 Try.underlying25 Try.infoInt rfl (by decide) N (by omega) .i64 .i64 (N : Int) rfl W
    have hI := IA.zeros w 3 N
    rw [← upTo_zero N g] at hI
    have hb0 : Below w.heap.size w (w.alloc (.cells (zeros N (.int .i64 0)) 3)) := (Below.refl _ _).alloc (Nat.le_refl _) _
    go_enter Try.func76, Try.ntmps76
    go_wp2_with fail
    obtain ⟨M, hM⟩ : ∃ M, M = w.heap.size := ⟨_, rfl⟩
    rw [← hM] at hI hb0 h3 hlp ⊢
    have HMM := Lib.hid hM
    clear hM hmk
    go_loopw [10] (fun i wr => ∃ j : Nat, j ≤ l.length ∧ i = .int .i64 j ∧ IA wr 3 M (upTo N g j) ∧ Below M w wr) (fun i _ => l.length - (intOf i).toNat)
    case atStart => exact ⟨0, by omega, rfl, hI, hb0⟩
    case round =>
      obtain ⟨j, hj, rfl, hI2, hbel⟩ := hrel
      clear hI hb0
      by_cases hlt : j < l.length
      · have hfz := hI2.free j
        have hj0 : (0 : Int) ≤ (j : Int) := by omega
        have hj1 : (j : Int) < (N : Int) := by omega
        have hj2 : j < N := by omega
        have hul := upTo_length N g j
        have hz := hI2.cell (j := j) (by omega)
        rw [upTo_nth _ _ _ _ (by omega), if_neg (by omega)] at hz
        have hI3 := hI2.set_ j (g j)
        rw [upTo_set] at hI3
        have hgj : g j = mul F (nth l j) c := by rw [HGD.out]
        obtain ⟨v, hv⟩ : ∃ v, v = g j := ⟨_, rfl⟩
        rw [← hv] at hI3 hgj
        have hb3 := hbel.setCell (p := ⟨M, j, none⟩) (Nat.le_refl _) (.int .i64 (v : Nat))
        have hS : ∀ W : World, Below M w W → (W.cell? ⟨p, 0, none⟩ = some (.pointer (some ⟨f, 0, none⟩)) ∧ W.cell? ⟨p, 1, none⟩ = some (.slice (some ⟨cb, off, none⟩) l.length cap) ∧ W.cell? ⟨cb, off + j, none⟩ = some (.int .i64 (nth l j : Nat)) ∧ Hid (Below M w W)) := fun W hW =>
          ⟨(hW.cell (p := ⟨p, 0, none⟩) hlp).trans c0, (hW.cell (p := ⟨p, 1, none⟩) hlp).trans c1, (hW.cell (p := ⟨cb, off + j, none⟩) h3).trans (H5.out j hlt), Lib.hid hW⟩
        have HX := Lib.hid (fun (W : World) (hW : W.cell? ⟨p, 0, none⟩ = some (.pointer (some ⟨f, 0, none⟩)) ∧ W.cell? ⟨p, 1, none⟩ = some (.slice (some ⟨cb, off, none⟩) l.length cap) ∧ W.cell? ⟨cb, off + j, none⟩ = some (.int .i64 (nth l j : Nat)) ∧ Hid (Below M w W)) =>
          (gfMul Q F hF f (nth l j) c (hl j) hc W (HGG.out.below (by rw [← HMM.out]; exact hW.2.2.2.out))).mono (R' := fun e w' => e = .returned (.int .i64 (v : Nat)) ∧ ∃ n, w' = W.drewN n) (by rintro e w' ⟨rfl, n, rfl⟩; exact ⟨by rw [hgj], n, rfl⟩))
        have hs0 := hS _ hbel.drew
        have hs2 := hS _ hb3
        have hs3 := fun n => hS _ (below_drewN hb3 n)
        have hs4 := fun n => hS _ (below_drewN hbel n)
        have d0 := hs0.1
        have d1 := hs0.2.1
        have d2 := hs0.2.2.1
        have HI3 := Lib.hid hI3
        have HB3 := Lib.hid hb3
        clear hI2 hI3 hb3 hul hgj hv hbel
        go_wp2_with fail
        go_region_held3 (fun w' => w'.cell? ⟨p, 0, none⟩ = some (.pointer (some ⟨f, 0, none⟩)) ∧ w'.cell? ⟨p, 1, none⟩ = some (.slice (some ⟨cb, off, none⟩) l.length cap) ∧ w'.cell? ⟨cb, off + j, none⟩ = some (.int .i64 (nth l j : Nat)) ∧ Hid (Below M w w'))
          (first | exact hs0 | exact hs2 | exact hs3 _ | exact hs4 _ | go_keep)
          (first | (go_at_call 69; refine (HX.out _ (by assumption)).mono ?_; rintro e w3 ⟨rfl, n, rfl⟩))
        go_wp2_with fail
        go_roundw
        case rel => exact ⟨j + 1, by omega, by go_num, HI3.out.mod (Mod.drewN (Mod.refl (S := fun _ => False) _) _) (fun h => h), below_drewN HB3.out _⟩
        case measure => simp [intOf]; omega
      · obtain rfl : j = l.length := by omega
        have c0' : wr.cell? ⟨p, 0, none⟩ = some (.pointer (some ⟨f, 0, none⟩)) := (hbel.cell (p := ⟨p, 0, none⟩) hlp).trans c0
        have hul := upTo_length N g l.length
        have hsl : SlQ wr Q (some ⟨M, 0, none⟩) (upTo N g l.length) N := ⟨by omega, fun _ => ⟨M, 0, rfl, HQH.out _ (by rw [← HMM.out]; exact Nat.le_refl _), hI2.lt, fun j hj => by rw [Nat.zero_add]; exact hI2.cell hj⟩⟩
        have hsz : M ≤ wr.heap.size := Nat.le_of_lt hI2.lt
        have hne : upTo N g l.length ≠ [] := by intro e; rw [e] at hul; simp at hul; omega
        have HT := poly_new Q f (some ⟨M, 0, none⟩) (upTo N g l.length) N wr (fun k hk => HQH.out k (by have := HMM.out; omega)) hne (by omega) hsl
        rw [hul, ← HSH.out] at HT
        have HT := Lib.hid HT
        clear hI2 hul hsl hne
        go_wp2_with fail
        refine HT.out.mono ?_
        rintro e w' ⟨r, rfl, hr, hb, _⟩
        go_wp2_with fail
        go_ret2
        exact ⟨r, rfl, hr, by rw [← HMM.out]; exact hbel.trans (hb.mono hsz)⟩
theorem polyMono (F : Fld) (hF : Six F) (p f k c : Nat) (l : List Nat) (K : Int) (hK : K = k) (hk : k < 100000) (hc : c < F.size) (hl : El F l) (hll : l.length < 100000) (w : World) (hp : PolyQ w (fun _ => True) p f l) (hg : GFQ w (fun _ => True) f F) :
    Calls Try.prog 76 #[.pointer (some ⟨p, 0, none⟩), .int .i64 K, .int .i64 c] w fun e w' => ∃ r, e = .returned (.tuple #[.pointer (some ⟨r, 0, none⟩), .nilIface]) ∧ PolyQ w' (fun _ => True) r f (shfL F l k c) ∧ Below w.heap.size w w' :=
  polyMonoQ _ F hF p f k c l K hK hk hc hl hll w (fun _ _ => trivial) hp hg
end Go.Proofs.Ytiielblnmfeapaa
