/-
  The reference's patterns as rows of bools: what is given, what stands there, walked. No condition beyond the bounds that each theorem states.
-/
import Derived.Test.YthkiajighmhdoaaQLE
import Derived.Test.YthkiajighmhdoaaQKG
namespace Go.Proofs.Ythkiajighmhdoaa
open Go.RowKit Go.Qz Go.Qz.QK Go.Qz.QW
open Go.Qz.QB (fb vb rrest vb_lt fb_lt)
set_option linter.unusedVariables false

theorem Try.infoRowB : (Try.prog.info? 26).map (fun i => (i.zero, i.size, i.bytes)) = some (some (.slice none 0 0), 1, 24) := by kernel_rfl
theorem Try.infoB : (Try.prog.info? 4).map (fun i => (i.zero, i.size, i.bytes)) = some (some (.bool false), 1, 1) := by kernel_rfl
def GrdPost (n : Nat) (F : Nat → Nat → Bool) (w : World) (e : Ending) (w' : World) : Prop := ∃ G, e = .returned (.slice (some ⟨G, 0, none⟩) n n) ∧ Hid (Grid w' 26 4 G n n n (fun r c => .bool (F r c))) ∧ Hid (Below w.heap.size w w') ∧ Hid (w.heap.size ≤ G) ∧ Hid (G + n < w'.heap.size)
/-- What stands ahead of the data. -/
def patB (v d r c : Nat) : Bool := gvB v r c && pat (dimOf v) (fb d) (vb v) (al (cenOf v) (manyOf v) r c) r c
set_option maxRecDepth 100000 in
set_option maxHeartbeats 6400000 in
theorem sGivens (v : Nat) (h1 : 1 ≤ v) (h2 : v ≤ 40) (w : World) :
    Calls Try.prog 78 #[.int .i64 v] w (GrdPost (dimOf v) (gvB v) w) := by
  obtain ⟨n, hnv⟩ : ∃ n, n = dimOf v := ⟨_, rfl⟩
  have hn : n ≤ 400 := by rw [hnv]; unfold dimOf; omega
  have HDI := Lib.hid (dimension v (by omega) w)
  have HCE := Lib.hid (centers v h1 h2 w)
  rw [← hnv] at HDI ⊢
  obtain ⟨mm, hmm⟩ : ∃ mm, mm = manyOf v := ⟨_, rfl⟩
  have hmm7 : mm ≤ 7 := by rw [hmm]; exact (cor_at v h1 h2).1
  have HX := Lib.hid (And.intro h1 (And.intro h2 (And.intro hmm hnv)))
  have hmkH := fun W => run_make1 (P := Try.prog) 43 26 (.slice none 0 0) 24 Try.underlying43 Try.infoRowB rfl (by decide) n (by omega) .i64 .i64 n rfl W
  have hmkW := fun X => run_make1 (P := Try.prog) 26 4 (.bool false) 1 Try.underlying26 Try.infoB rfl (by decide) n (by omega) .i64 .i64 n rfl X
  obtain ⟨F, hF⟩ : ∃ F, F = gvB v := ⟨_, rfl⟩
  rw [← hF]
  have HF := Lib.hid hF
  clear hF
  clear h1 h2 hmm hnv
  go_enter Try.func78, Try.ntmps78
  go_wp2_with fail
  refine HDI.out.mono ?_
  rintro e w1 ⟨rfl, rfl⟩
  go_wp2_with fail
  refine HCE.out.mono ?_
  rintro e w2 ⟨A, rfl, hA1, hA2, hb2⟩
  have HRC : Hid (Rd w2 A mm (fun j => .int .i64 (nth (cenOf v) j : Nat))) := Lib.hid (fun h0 => by
    obtain ⟨hh1, hh2, hh3, hh4⟩ := HX.out
    by_cases hv : v = 1
    · have : mm = 0 := by rw [hh3, hv]; rfl
      omega
    · obtain ⟨b, rfl, hia, _⟩ := hA1 (by omega)
      have hl : (cenOf v).length = mm := by rw [hh3]; exact (mid_ver v hh1 hh2).len
      have := hia.rd
      rw [hl] at this
      exact this h0)
  have HB2 := Lib.hid hb2
  have hmm2 : mm = manyOf v := HX.out.2.2.1
  rw [← hmm2]
  have hG := Grid.zero (w := w2) 26 4 n n (fun r c => .bool false)
  have hs0 : (w2.alloc (.cells (zeros n (.slice none 0 0)) 26)).heap.size = w2.heap.size + 1 := by simp
  have hb0 : Below w2.heap.size w2 (w2.alloc (.cells (zeros n (.slice none 0 0)) 26)) := (Below.refl _ _).alloc (Nat.le_refl _) _
  clear hA1 hA2 hb2 hmm2
  go_wp2_with fail
  obtain ⟨W3, hW3⟩ : ∃ W3, W3 = w2.alloc (.cells (zeros n (.slice none 0 0)) 26) := ⟨_, rfl⟩
  rw [← hW3] at hG hb0 hs0 ⊢
  obtain ⟨G, hGe⟩ : ∃ G, G = w2.heap.size := ⟨_, rfl⟩
  rw [← hGe] at hG hb0 hs0 ⊢
  have HGE := Lib.hid hGe
  have HS0 : Hid (W3.heap.size = G + 1 + 0) := Lib.hid hs0
  have HG0 : Hid (Grid W3 26 4 G n n 0 (fun r c => .bool (F r c))) := Lib.hid ⟨hG.hd, fun r hr => by omega⟩
  have HB0 := Lib.hid hb0
  clear hW3 hGe hs0 hmkH hG hb0
  go_loopw [16] (fun i wr => ∃ k : Nat, k ≤ n ∧ i = .int .i64 k ∧ Hid (Grid wr 26 4 G n n k (fun r c => .bool (F r c))) ∧ Hid (wr.heap.size = G + 1 + k) ∧ Hid (Below G w2 wr)) (fun i _ => n - (intOf i).toNat)
  case atStart => exact ⟨0, by omega, rfl, HG0, HS0, HB0⟩
  case round =>
    obtain ⟨k, hk, rfl, HG, HSZ, HB⟩ := hrel
    obtain ⟨wi, hwi⟩ : ∃ wi, wi = wr := ⟨_, rfl⟩
    rw [← hwi] at HG HSZ HB ⊢
    clear hwi HG0 HS0 HB0
    by_cases hlt : k < n
    · have hck : wi.cell? ⟨G, k, none⟩ = some (.slice none 0 0) := by rw [HG.out.hd.cell?, hdr_get _ _ _ _ _ hlt, if_neg (by omega)]
      have hsz : wi.heap.size = G + 1 + k := HSZ.out
      have hk0 : (0 : Int) ≤ (k : Int) := by omega
      have hk1 : (k : Int) < (n : Int) := by omega
      have hGw := HG.out.hd.lt
      have hck2 : (wi.alloc (.cells (zeros n (.bool false)) 4)).cell? ⟨G, k, none⟩ = some (.slice none 0 0) := (World.cell?_alloc_past _ _ _ hGw).trans hck
      have hfk2 : (wi.alloc (.cells (zeros n (.bool false)) 4)).frozen? ⟨G, k, none⟩ = false := (HG.out.hd.mod (S := fun _ => False) ((Mod.refl _).alloc (.cells (zeros n (.bool false)) 4)) (fun h => h)).free k
      have HGa : Hid (Grid wi 26 4 G n n k (fun r c => .bool (decide (r < k) && F r c))) := Lib.hid (HG.out.congr (fun r c hr hc => by simp [hr]))
      have HG2 := Lib.hid (HGa.out.push (.bool false) (fun c hc => by simp) hsz)
      have HB2' : Hid (Below G w2 ((wi.alloc (.cells (zeros n (.bool false)) 4)).setCell ⟨G, k, none⟩ (.slice (some ⟨G + 1 + k, 0, none⟩) n n))) := Lib.hid ((HB.out.alloc (by omega) _).setCell (p := ⟨G, k, none⟩) (Nat.le_refl _) _)
      have HS2 : Hid (((wi.alloc (.cells (zeros n (.bool false)) 4)).setCell ⟨G, k, none⟩ (.slice (some ⟨G + 1 + k, 0, none⟩) n n)).heap.size = G + 1 + (k + 1)) := Lib.hid (by simp [World.setCell]; omega)
      have hck3 := HG2.out.head k (by omega) hlt
      clear hck HG HB HSZ HGa hGw
      go_wp2_with fail
      obtain ⟨W5, hW5⟩ : ∃ W5, W5 = (wi.alloc (.cells (zeros n (.bool false)) 4)).setCell ⟨G, k, none⟩ (.slice (some ⟨G + 1 + k, 0, none⟩) n n) := ⟨_, rfl⟩
      rw [← hW5] at HG2 HB2' HS2 ⊢
      clear hck2 hfk2 hW5 hck3 hsz
      go_loopw [29] (fun i wr => ∃ j : Nat, j ≤ n ∧ i = .int .i64 j ∧ Hid (Grid wr 26 4 G n n (k + 1) (fun r c => .bool (decide (r < k ∨ r = k ∧ c < j) && F r c))) ∧ Hid (wr.heap.size = G + 1 + (k + 1)) ∧ Hid (Below G w2 wr)) (fun i _ => n - (intOf i).toNat)
      case atStart => exact ⟨0, by omega, rfl, Lib.hid (HG2.out.congr (fun r c hr hc => by by_cases e : r < k <;> simp [e])), HS2, HB2'⟩
      case round =>
        obtain ⟨j, hj, rfl, HG3, HSZ3, HB3⟩ := hrel
        obtain ⟨wj, hwj⟩ : ∃ wj, wj = wr := ⟨_, rfl⟩
        rw [← hwj] at HG3 HSZ3 HB3 ⊢
        clear hwj HG2 HS2 HB2'
        by_cases hjn : j < n
        · have hj0 : (0 : Int) ≤ (j : Int) := by omega
          have hj1 : (j : Int) < (n : Int) := by omega
          have c0 := HG3.out.head k (by omega) hlt
          have c1 := HG3.out.cell k j (by omega) hjn
          have hf1 := (HG3.out.row k (by omega)).free j
          have HRJ : Hid (Rd wj.drew A mm (fun j => .int .i64 (nth (cenOf v) j : Nat))) := Lib.hid (by
            have := HB3.out
            rw [HGE.out] at this
            exact (HRC.out.below this).drew)
          have HGV := Lib.hid (sGiven (n := n) v mm (cenOf v) A mm k j HX.out.1 HX.out.2.1 HX.out.2.2.1 rfl HX.out.2.2.2 hmm7 hlt hjn wj.drew HRJ.out)
          obtain ⟨z, hz⟩ : ∃ z, z = (decide (k < k ∨ k = k ∧ j < j) && F k j) := ⟨_, rfl⟩
          rw [← hz] at c1
          clear hz
          rw [← HF.out] at HGV
          obtain ⟨y, hy⟩ : ∃ y, y = F k j := ⟨_, rfl⟩
          rw [← hy] at HGV
          have HY := Lib.hid hy
          clear hy HRJ
          have HG4 := Lib.hid (HG3.out.set_ (g := fun r c => .bool (decide (r < k ∨ r = k ∧ c < j + 1) && F r c)) k j (by omega) (.bool y) (fun r c hr hc => by
            by_cases e : r = k ∧ c = j
            · rw [if_pos e, e.1, e.2, ← HY.out]; simp
            · rw [if_neg e]
              have : decide (r < k ∨ r = k ∧ c < j + 1) = decide (r < k ∨ r = k ∧ c < j) := by rw [Bool.eq_iff_iff]; simp only [decide_eq_true_eq]; omega
              rw [this]))
          have HB4 : Hid (Below G w2 (wj.setCell ⟨G + 1 + k, j, none⟩ (.bool y))) := Lib.hid (HB3.out.setCell (p := ⟨G + 1 + k, j, none⟩) (show G ≤ G + 1 + k by omega) _)
          have HS4 : Hid ((wj.setCell ⟨G + 1 + k, j, none⟩ (.bool y)).heap.size = G + 1 + (k + 1)) := Lib.hid (by simpa [World.setCell] using HSZ3.out)
          clear HG3 HB3 HSZ3
          go_upto_region 11 with (fail)
          go_region_law (first | (go_simp; go_at_call 76; refine HGV.out.mono ?_; rintro e w8 ⟨rfl, rfl⟩))
          all_goals
            go_wp2_with fail
            go_roundw
            case rel => exact ⟨j + 1, by omega, by go_num, Lib.hid ⟨HG4.out.hd.keep rfl, fun r hr => (HG4.out.row r hr).keep rfl⟩, Lib.hid HS4.out, Lib.hid (below_drewN HB4.out _)⟩
            case measure => simp [intOf]; omega
        · obtain rfl : j = n := by omega
          have HG4 : Hid (Grid wj 26 4 G j j (k + 1) (fun r c => .bool (F r c))) := Lib.hid (HG3.out.congr (fun r c hr hc => by
            have : decide (r < k ∨ r = k ∧ c < j) = true := by rw [decide_eq_true_eq]; omega
            rw [this, Bool.true_and]))
          clear HG3
          go_wp2_with fail
          go_roundw
          case rel => exact ⟨k + 1, by omega, by go_num, HG4, HSZ3, HB3⟩
          case measure => simp [intOf]; omega
    · obtain rfl : k = n := by omega
      have HBF : Hid (Below w.heap.size w wi) := Lib.hid (HB2.out.trans (HB.out.mono (by rw [HGE.out]; exact HB2.out.size)))
      have HGF : Hid (w.heap.size ≤ G) := Lib.hid (by rw [HGE.out]; exact HB2.out.size)
      have HGS : Hid (G + k < wi.heap.size) := Lib.hid (by rw [HSZ.out]; omega)
      go_wp2_with fail
      go_ret
      exact ⟨G, rfl, HG, HBF, HGF, HGS⟩
end Go.Proofs.Ythkiajighmhdoaa
