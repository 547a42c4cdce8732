/-
  The reference's patterns as rows of bools, walked. No condition beyond the bounds that each theorem states.
-/
import Derived.Test.YthkiajighmhdoaaQLF
namespace Go.Proofs.Ythkiajighmhdoaa
open Go.RowKit Go.Qz Go.Qz.QK Go.Qz.QW
open Go.Qz.QB (fb vb rrest vb_lt fb_lt)
set_option linter.unusedVariables false

set_option maxRecDepth 100000 in
set_option maxHeartbeats 6400000 in
theorem sPatterns (v l m d : Nat) (hd : d = l * 8 + m) (hl : l < 4) (hm8 : m < 8) (h1 : 1 ≤ v) (h2 : v ≤ 40) (w : World) :
    Calls Try.prog 37 #[.int .i64 v, .int .i64 l, .int .i64 m] w (GrdPost (dimOf v) (patB v d) w) := by
  obtain ⟨n, hnv⟩ : ∃ n, n = dimOf v := ⟨_, rfl⟩
  have hn : n ≤ 400 := by rw [hnv]; unfold dimOf; omega
  have HDI := Lib.hid (dimension v (by omega) w)
  have HCE := Lib.hid (centers v h1 h2 w)
  rw [← hnv] at HDI ⊢
  obtain ⟨mm, hmm⟩ : ∃ mm, mm = manyOf v := ⟨_, rfl⟩
  have hmm7 : mm ≤ 7 := by rw [hmm]; exact (cor_at v h1 h2).1
  have HX := Lib.hid (And.intro h1 (And.intro h2 (And.intro hmm hnv)))
  have hmkH := fun W => run_make1 (P := Try.prog) 43 26 (.slice none 0 0) 24 Try.underlying43 Try.infoRowB rfl (by decide) n (by omega) .i64 .i64 n rfl W
  have hmkW := fun X => run_make1 (P := Try.prog) 26 4 (.bool false) 1 Try.underlying26 Try.infoB rfl (by decide) n (by omega) .i64 .i64 n rfl X
  have HFB := Lib.hid (qrFormatBits l m hl hm8 w)
  rw [← hd] at HFB
  have hd32 : d < 32 := by omega
  have hfl := (fb_lt ⟨d, hd32⟩).1
  simp only at hfl
  have HP0 : Hid (∀ r c, patB v d r c = (gvB v r c && pat n (fb d) (vb v) (al (cenOf v) mm r c) r c)) := Lib.hid (fun r c => by unfold patB; rw [hmm, hnv])
  obtain ⟨x, hx⟩ : ∃ x, x = fb d := ⟨_, rfl⟩
  rw [← hx] at HFB hfl HP0
  obtain ⟨F, hF⟩ : ∃ F, F = patB v d := ⟨_, rfl⟩
  rw [← hF] at HP0 ⊢
  clear hF hd hx hl hm8 hd32
  clear h1 h2 hmm hnv
  go_enter Try.func37, Try.ntmps37
  go_wp2_with fail
  refine HDI.out.mono ?_
  rintro e w1 ⟨rfl, rfl⟩
  go_wp2_with fail
  refine HFB.out.mono ?_
  rintro e w1 ⟨rfl, rfl⟩
  go_wp2_with fail
  refine HCE.out.mono ?_
  rintro e w2 ⟨A, rfl, hA1, hA2, hb2⟩
  have HRC : Hid (Rd w2 A mm (fun j => .int .i64 (nth (cenOf v) j : Nat))) := Lib.hid (fun h0 => by
    obtain ⟨hh1, hh2, hh3, hh4⟩ := HX.out
    by_cases hv : v = 1
    · have : mm = 0 := by rw [hh3, hv]; rfl
      omega
    · obtain ⟨b, rfl, hia, _⟩ := hA1 (by omega)
      have hl : (cenOf v).length = mm := by rw [hh3]; exact (mid_ver v hh1 hh2).len
      have := hia.rd
      rw [hl] at this
      exact this h0)
  have HB2 := Lib.hid hb2
  have hmm2 : mm = manyOf v := HX.out.2.2.1
  rw [← hmm2]
  have hG := Grid.zero (w := w2) 26 4 n n (fun r c => .bool false)
  have hs0 : (w2.alloc (.cells (zeros n (.slice none 0 0)) 26)).heap.size = w2.heap.size + 1 := by simp
  have hb0 : Below w2.heap.size w2 (w2.alloc (.cells (zeros n (.slice none 0 0)) 26)) := (Below.refl _ _).alloc (Nat.le_refl _) _
  clear hA1 hA2 hb2 hmm2
  go_wp2_with fail
  obtain ⟨W3, hW3⟩ : ∃ W3, W3 = w2.alloc (.cells (zeros n (.slice none 0 0)) 26) := ⟨_, rfl⟩
  rw [← hW3] at hG hb0 hs0 ⊢
  obtain ⟨G, hGe⟩ : ∃ G, G = w2.heap.size := ⟨_, rfl⟩
  rw [← hGe] at hG hb0 hs0 ⊢
  have HGE := Lib.hid hGe
  have HS0 : Hid (W3.heap.size = G + 1 + 0) := Lib.hid hs0
  have HG0 : Hid (Grid W3 26 4 G n n 0 (fun r c => .bool (F r c))) := Lib.hid ⟨hG.hd, fun r hr => by omega⟩
  have HB0 := Lib.hid hb0
  clear hW3 hGe hs0 hmkH hG hb0
  go_loopw [24] (fun i wr => ∃ k : Nat, k ≤ n ∧ i = .int .i64 k ∧ Hid (Grid wr 26 4 G n n k (fun r c => .bool (F r c))) ∧ Hid (wr.heap.size = G + 1 + k) ∧ Hid (Below G w2 wr)) (fun i _ => n - (intOf i).toNat)
  case atStart => exact ⟨0, by omega, rfl, HG0, HS0, HB0⟩
  case round =>
    obtain ⟨k, hk, rfl, HG, HSZ, HB⟩ := hrel
    obtain ⟨wi, hwi⟩ : ∃ wi, wi = wr := ⟨_, rfl⟩
    rw [← hwi] at HG HSZ HB ⊢
    clear hwi HG0 HS0 HB0
    by_cases hlt : k < n
    · have hck : wi.cell? ⟨G, k, none⟩ = some (.slice none 0 0) := by rw [HG.out.hd.cell?, hdr_get _ _ _ _ _ hlt, if_neg (by omega)]
      have hsz : wi.heap.size = G + 1 + k := HSZ.out
      have hk0 : (0 : Int) ≤ (k : Int) := by omega
      have hk1 : (k : Int) < (n : Int) := by omega
      have hGw := HG.out.hd.lt
      have hck2 : (wi.alloc (.cells (zeros n (.bool false)) 4)).cell? ⟨G, k, none⟩ = some (.slice none 0 0) := (World.cell?_alloc_past _ _ _ hGw).trans hck
      have hfk2 : (wi.alloc (.cells (zeros n (.bool false)) 4)).frozen? ⟨G, k, none⟩ = false := (HG.out.hd.mod (S := fun _ => False) ((Mod.refl _).alloc (.cells (zeros n (.bool false)) 4)) (fun h => h)).free k
      have HGa : Hid (Grid wi 26 4 G n n k (fun r c => .bool (decide (r < k) && F r c))) := Lib.hid (HG.out.congr (fun r c hr hc => by simp [hr]))
      have HG2 := Lib.hid (HGa.out.push (.bool false) (fun c hc => by simp) hsz)
      have HB2' : Hid (Below G w2 ((wi.alloc (.cells (zeros n (.bool false)) 4)).setCell ⟨G, k, none⟩ (.slice (some ⟨G + 1 + k, 0, none⟩) n n))) := Lib.hid ((HB.out.alloc (by omega) _).setCell (p := ⟨G, k, none⟩) (Nat.le_refl _) _)
      have HS2 : Hid (((wi.alloc (.cells (zeros n (.bool false)) 4)).setCell ⟨G, k, none⟩ (.slice (some ⟨G + 1 + k, 0, none⟩) n n)).heap.size = G + 1 + (k + 1)) := Lib.hid (by simp [World.setCell]; omega)
      have hck3 := HG2.out.head k (by omega) hlt
      clear hck HG HB HSZ HGa hGw
      go_wp2_with fail
      obtain ⟨W5, hW5⟩ : ∃ W5, W5 = (wi.alloc (.cells (zeros n (.bool false)) 4)).setCell ⟨G, k, none⟩ (.slice (some ⟨G + 1 + k, 0, none⟩) n n) := ⟨_, rfl⟩
      rw [← hW5] at HG2 HB2' HS2 ⊢
      clear hck2 hfk2 hW5 hck3 hsz
      go_loopw [37] (fun i wr => ∃ j : Nat, j ≤ n ∧ i = .int .i64 j ∧ Hid (Grid wr 26 4 G n n (k + 1) (fun r c => .bool (decide (r < k ∨ r = k ∧ c < j) && F r c))) ∧ Hid (wr.heap.size = G + 1 + (k + 1)) ∧ Hid (Below G w2 wr)) (fun i _ => n - (intOf i).toNat)
      case atStart => exact ⟨0, by omega, rfl, Lib.hid (HG2.out.congr (fun r c hr hc => by by_cases e : r < k <;> simp [e])), HS2, HB2'⟩
      case round =>
        obtain ⟨j, hj, rfl, HG3, HSZ3, HB3⟩ := hrel
        obtain ⟨wj, hwj⟩ : ∃ wj, wj = wr := ⟨_, rfl⟩
        rw [← hwj] at HG3 HSZ3 HB3 ⊢
        clear hwj HG2 HS2 HB2'
        by_cases hjn : j < n
        · have hj0 : (0 : Int) ≤ (j : Int) := by omega
          have hj1 : (j : Int) < (n : Int) := by omega
          have c0 := HG3.out.head k (by omega) hlt
          have c1 := HG3.out.cell k j (by omega) hjn
          have hf1 := (HG3.out.row k (by omega)).free j
          have HRJ : Hid (Rd wj.drew A mm (fun j => .int .i64 (nth (cenOf v) j : Nat))) := Lib.hid (by
            have := HB3.out
            rw [HGE.out] at this
            exact (HRC.out.below this).drew)
          have HGV := Lib.hid (sGiven (n := n) v mm (cenOf v) A mm k j HX.out.1 HX.out.2.1 HX.out.2.2.1 rfl HX.out.2.2.2 hmm7 hlt hjn wj.drew HRJ.out)
          obtain ⟨z, hz⟩ : ∃ z, z = (decide (k < k ∨ k = k ∧ j < j) && F k j) := ⟨_, rfl⟩
          rw [← hz] at c1
          clear hz
          have hFv := HP0.out k j
          obtain ⟨y, hy⟩ : ∃ y, y = F k j := ⟨_, rfl⟩
          rw [← hy] at hFv
          have HY := Lib.hid hy
          clear hy
          cases hgv : gvB v k j with
          | true =>
            have HPA := Lib.hid (sPattern (n := n) v mm x (cenOf v) A mm k j HX.out.1 HX.out.2.1 HX.out.2.2.1 rfl HX.out.2.2.2 hmm7 hlt hjn hfl hgv wj.drew HRJ.out)
            rw [hgv] at HGV hFv
            rw [Bool.true_and] at hFv
            rw [← hFv] at HPA
            clear hgv hFv HRJ
            have HG4 := Lib.hid (HG3.out.set_ (g := fun r c => .bool (decide (r < k ∨ r = k ∧ c < j + 1) && F r c)) k j (by omega) (.bool y) (fun r c hr hc => by
              by_cases e : r = k ∧ c = j
              · rw [if_pos e, e.1, e.2, ← HY.out]; simp
              · rw [if_neg e]
                have : decide (r < k ∨ r = k ∧ c < j + 1) = decide (r < k ∨ r = k ∧ c < j) := by rw [Bool.eq_iff_iff]; simp only [decide_eq_true_eq]; omega
                rw [this]))
            have HB4 : Hid (Below G w2 (wj.setCell ⟨G + 1 + k, j, none⟩ (.bool y))) := Lib.hid (HB3.out.setCell (p := ⟨G + 1 + k, j, none⟩) (show G ≤ G + 1 + k by omega) _)
            have HS4 : Hid ((wj.setCell ⟨G + 1 + k, j, none⟩ (.bool y)).heap.size = G + 1 + (k + 1)) := Lib.hid (by simpa [World.setCell] using HSZ3.out)
            clear HG3 HB3 HSZ3
            go_upto_region 12 with (fail)
            go_region_law (first | (go_simp; go_at_call 76; refine HGV.out.mono ?_; rintro e w8 ⟨rfl, rfl⟩) | (go_simp; go_at_call 77; refine HPA.out.mono ?_; rintro e w8 ⟨rfl, rfl⟩))
            all_goals
              go_wp2_with fail
              go_roundw
              case rel => exact ⟨j + 1, by omega, by go_num, Lib.hid ⟨HG4.out.hd.keep rfl, fun r hr => (HG4.out.row r hr).keep rfl⟩, Lib.hid HS4.out, Lib.hid (below_drewN HB4.out _)⟩
              case measure => simp [intOf]; omega
          | false =>
            rw [hgv] at HGV hFv
            rw [Bool.false_and] at hFv
            subst hFv
            clear hgv HRJ
            have HG4 := Lib.hid (HG3.out.set_ (g := fun r c => .bool (decide (r < k ∨ r = k ∧ c < j + 1) && F r c)) k j (by omega) (.bool false) (fun r c hr hc => by
              by_cases e : r = k ∧ c = j
              · rw [if_pos e, e.1, e.2, ← HY.out]; simp
              · rw [if_neg e]
                have : decide (r < k ∨ r = k ∧ c < j + 1) = decide (r < k ∨ r = k ∧ c < j) := by rw [Bool.eq_iff_iff]; simp only [decide_eq_true_eq]; omega
                rw [this]))
            have HB4 : Hid (Below G w2 (wj.setCell ⟨G + 1 + k, j, none⟩ (.bool false))) := Lib.hid (HB3.out.setCell (p := ⟨G + 1 + k, j, none⟩) (show G ≤ G + 1 + k by omega) _)
            have HS4 : Hid ((wj.setCell ⟨G + 1 + k, j, none⟩ (.bool false)).heap.size = G + 1 + (k + 1)) := Lib.hid (by simpa [World.setCell] using HSZ3.out)
            clear HG3 HB3 HSZ3
            go_upto_region 12 with (fail)
            refine wp_region_any (by kernel_rfl) ?_
            change wpAny _ _ _ _ _ _ _ (World.drew _)
            refine wpAny_take (i := 0) (v := ?_) rfl (by kernel_rfl) (by kernel_rfl) (by kernel_rfl) (fun _ _ _ h => h) (Or.inl ⟨by rfl, ?_⟩) ?_
            rotate_left
            · intro w; go_simp; try with_reducible rfl
            refine wpAny_take (i := 1) (v := ?_) rfl (by kernel_rfl) (by kernel_rfl) (by kernel_rfl) (fun _ _ _ h => h) (Or.inl ⟨by rfl, ?_⟩) ?_
            rotate_left
            · intro w; go_simp; try with_reducible rfl
            refine wpAny_take (i := 2) (v := ?_) rfl (by kernel_rfl) (by kernel_rfl) (by kernel_rfl) (fun _ _ _ h => h) (Or.inl ⟨by rfl, ?_⟩) ?_
            rotate_left
            · intro w; go_simp; try with_reducible rfl
            refine wpAny_take (i := 4) (v := ?_) rfl (by kernel_rfl) (by kernel_rfl) (by kernel_rfl) (fun _ _ _ h => h) (Or.inl ⟨by rfl, ?_⟩) ?_
            rotate_left
            · intro w; go_simp; try with_reducible rfl
            refine wpAny_take (i := 5) (v := ?_) rfl (by kernel_rfl) (by kernel_rfl) (by kernel_rfl) (fun _ _ _ h => h) (Or.inl ⟨by rfl, ?_⟩) ?_
            rotate_left
            · intro w; go_simp; try with_reducible rfl
            refine wpAny_take (i := 6) (v := ?_) rfl (by kernel_rfl) (by kernel_rfl) (by kernel_rfl) (fun _ _ _ h => h) (Or.inl ⟨by rfl, ?_⟩) ?_
            rotate_left
            · intro w; go_simp; try with_reducible rfl
            refine wpAny_take (i := 7) (v := ?_) rfl (by kernel_rfl) (by kernel_rfl) (by kernel_rfl) (fun _ _ _ h => h) (Or.inl ⟨by rfl, ?_⟩) ?_
            rotate_left
            · intro w; go_simp; try with_reducible rfl
            refine wpAny_take (i := 8) (v := ?_) rfl (by kernel_rfl) (by kernel_rfl) (by kernel_rfl) (fun _ _ _ h => h) (Or.inl ⟨by rfl, ?_⟩) ?_
            rotate_left
            · intro w; go_simp; try with_reducible rfl
            refine wpAny_ready (rs := [3, 9]) (by kernel_rfl) (by simp) (AllReady.cons rfl (fun K hK => ?_) (AllReady.cons rfl (fun K hK => ?_) AllReady.nil))
            · go_simp
              refine hK _ _ ?_; clear hK K
              refine wpAny_ready (rs := [9]) (by kernel_rfl) (by simp) (AllReady.cons rfl (fun K hK => ?_) AllReady.nil)
              go_simp
              go_at_call 76
              refine HGV.out.mono ?_
              rintro e w8 ⟨rfl, rfl⟩
              try go_simp
              try (refine hK _ _ ?_; clear hK K)
              refine wpAny_take (i := 10) (v := ?_) rfl (by kernel_rfl) (by kernel_rfl) (by kernel_rfl) (fun _ _ _ h => h) (Or.inl ⟨by rfl, ?_⟩) ?_
              rotate_left
              · intro w; go_simp; try with_reducible rfl
              refine wpAny_take (i := 11) rfl (by kernel_rfl) (by kernel_rfl) (by kernel_rfl) (fun _ _ _ h => h) (Or.inr ⟨by rfl, rfl⟩) ?_
              refine wpAny_take (i := 12) rfl (by kernel_rfl) (by kernel_rfl) (by kernel_rfl) (fun _ _ _ h => h) (Or.inr ⟨by rfl, rfl⟩) ?_
              refine wpAny_take (i := 13) rfl (by kernel_rfl) (by kernel_rfl) (by kernel_rfl) (fun _ _ _ h => h) (Or.inr ⟨by rfl, rfl⟩) ?_
              refine wpAny_take (i := 14) rfl (by kernel_rfl) (by kernel_rfl) (by kernel_rfl) (fun _ _ _ h => h) (Or.inr ⟨by rfl, rfl⟩) ?_
              refine wpAny_take (i := 15) rfl (by kernel_rfl) (by kernel_rfl) (by kernel_rfl) (fun _ _ _ h => h) (Or.inr ⟨by rfl, rfl⟩) ?_
              refine wpAny_take (i := 16) rfl (by kernel_rfl) (by kernel_rfl) (by kernel_rfl) (fun _ _ _ h => h) (Or.inr ⟨by rfl, rfl⟩) ?_
              refine wpAny_take (i := 17) (v := ?_) rfl (by kernel_rfl) (by kernel_rfl) (by kernel_rfl) (fun _ _ _ h => h) (Or.inl ⟨by rfl, ?_⟩) ?_
              rotate_left
              · intro w; go_simp; try with_reducible rfl
              refine wpAny_take (i := 18) (v := ?_) rfl (by kernel_rfl) (by kernel_rfl) (by kernel_rfl) (fun _ _ _ h => h) (Or.inl ⟨by rfl, ?_⟩) ?_
              rotate_left
              · intro w; go_simp; try with_reducible rfl
              refine wpAny_ready (rs := [19]) (by kernel_rfl) (by simp) (AllReady.cons rfl (fun K hK => ?_) AllReady.nil)
              go_simp
              refine hK _ _ ?_; clear hK K
              refine wpAny_done (by kernel_rfl) ?_ _
              go_wp2_with fail
              go_roundw
              case rel => exact ⟨j + 1, by omega, by go_num, Lib.hid ⟨HG4.out.hd.keep rfl, fun r hr => (HG4.out.row r hr).keep rfl⟩, Lib.hid HS4.out, Lib.hid (below_drewN HB4.out _)⟩
              case measure => simp [intOf]; omega
            · go_simp
              go_at_call 76
              refine HGV.out.mono ?_
              rintro e w8 ⟨rfl, rfl⟩
              try go_simp
              try (refine hK _ _ ?_; clear hK K)
              refine wpAny_take (i := 10) (v := ?_) rfl (by kernel_rfl) (by kernel_rfl) (by kernel_rfl) (fun _ _ _ h => h) (Or.inl ⟨by rfl, ?_⟩) ?_
              rotate_left
              · intro w; go_simp; try with_reducible rfl
              refine wpAny_take (i := 11) rfl (by kernel_rfl) (by kernel_rfl) (by kernel_rfl) (fun _ _ _ h => h) (Or.inr ⟨by rfl, rfl⟩) ?_
              refine wpAny_take (i := 12) rfl (by kernel_rfl) (by kernel_rfl) (by kernel_rfl) (fun _ _ _ h => h) (Or.inr ⟨by rfl, rfl⟩) ?_
              refine wpAny_take (i := 13) rfl (by kernel_rfl) (by kernel_rfl) (by kernel_rfl) (fun _ _ _ h => h) (Or.inr ⟨by rfl, rfl⟩) ?_
              refine wpAny_take (i := 14) rfl (by kernel_rfl) (by kernel_rfl) (by kernel_rfl) (fun _ _ _ h => h) (Or.inr ⟨by rfl, rfl⟩) ?_
              refine wpAny_take (i := 15) rfl (by kernel_rfl) (by kernel_rfl) (by kernel_rfl) (fun _ _ _ h => h) (Or.inr ⟨by rfl, rfl⟩) ?_
              refine wpAny_take (i := 16) rfl (by kernel_rfl) (by kernel_rfl) (by kernel_rfl) (fun _ _ _ h => h) (Or.inr ⟨by rfl, rfl⟩) ?_
              refine wpAny_take (i := 17) (v := ?_) rfl (by kernel_rfl) (by kernel_rfl) (by kernel_rfl) (fun _ _ _ h => h) (Or.inl ⟨by rfl, ?_⟩) ?_
              rotate_left
              · intro w; go_simp; try with_reducible rfl
              refine wpAny_ready (rs := [3]) (by kernel_rfl) (by simp) (AllReady.cons rfl (fun K hK => ?_) AllReady.nil)
              go_simp
              refine hK _ _ ?_; clear hK K
              refine wpAny_take (i := 18) (v := ?_) rfl (by kernel_rfl) (by kernel_rfl) (by kernel_rfl) (fun _ _ _ h => h) (Or.inl ⟨by rfl, ?_⟩) ?_
              rotate_left
              · intro w; go_simp; try with_reducible rfl
              refine wpAny_ready (rs := [19]) (by kernel_rfl) (by simp) (AllReady.cons rfl (fun K hK => ?_) AllReady.nil)
              go_simp
              refine hK _ _ ?_; clear hK K
              refine wpAny_done (by kernel_rfl) ?_ _
              go_wp2_with fail
              go_roundw
              case rel => exact ⟨j + 1, by omega, by go_num, Lib.hid ⟨HG4.out.hd.keep rfl, fun r hr => (HG4.out.row r hr).keep rfl⟩, Lib.hid HS4.out, Lib.hid (below_drewN HB4.out _)⟩
              case measure => simp [intOf]; omega
        · obtain rfl : j = n := by omega
          have HG4 : Hid (Grid wj 26 4 G j j (k + 1) (fun r c => .bool (F r c))) := Lib.hid (HG3.out.congr (fun r c hr hc => by
            have : decide (r < k ∨ r = k ∧ c < j) = true := by rw [decide_eq_true_eq]; omega
            rw [this, Bool.true_and]))
          clear HG3
          go_wp2_with fail
          go_roundw
          case rel => exact ⟨k + 1, by omega, by go_num, HG4, HSZ3, HB3⟩
          case measure => simp [intOf]; omega
    · obtain rfl : k = n := by omega
      have HBF : Hid (Below w.heap.size w wi) := Lib.hid (HB2.out.trans (HB.out.mono (by rw [HGE.out]; exact HB2.out.size)))
      have HGF : Hid (w.heap.size ≤ G) := Lib.hid (by rw [HGE.out]; exact HB2.out.size)
      have HGS : Hid (G + k < wi.heap.size) := Lib.hid (by rw [HSZ.out]; omega)
      go_wp2_with fail
      go_ret
      exact ⟨G, rfl, HG, HBF, HGF, HGS⟩
end Go.Proofs.Ythkiajighmhdoaa
