/-
  A QR symbol's patterns drawn into the matrix: finders, separators, the dark module, alignment, timing, walked. No condition beyond the bounds that each theorem states.
-/
import Derived.Test.YthkiajighmhdoaaQKD
namespace Go.Proofs.Ythkiajighmhdoaa
open Go.RowKit Go.Qz Go.Qz.QK Go.Qz.QW
set_option linter.unusedVariables false

variable {w w' : World} {M B n : Nat} {g g' : G}
set_option maxRecDepth 100000 in
set_option maxHeartbeats 3200000 in
theorem mClear (v : Int) (hn : n ≤ 400) (h : MG w M B n g) :
    Calls Try.prog 85 #[.pointer (some ⟨M, 0, none⟩), .int .i8 v] w (Emb0 M B n (fun _ _ => v) w) := by
  have hlt := h.lt
  have H := Lib.hid h
  have HLT := Lib.hid hlt
  have a0 := h.obj.cell? 0
  simp only [List.getElem?_cons_zero] at a0
  clear h hlt
  go_enter Try.func85, Try.ntmps85
  go_wp2_with fail
  clear a0
  go_loopw [11] (fun i wr => ∃ (k : Nat) (q : G), k ≤ n ∧ i = .int .i64 k ∧ Hid (MG wr M B n q) ∧ Hid (∀ r c, r < k → c < n → q r c = v) ∧ Hid (Mod (MatS B M) w wr)) (fun i _ => n - (intOf i).toNat)
  case atStart => exact ⟨0, g, Nat.zero_le _, rfl, H, Lib.hid (fun r c h _ => by omega), Lib.hid (Mod.refl _)⟩
  case round =>
    obtain ⟨k, q, hk, rfl, HG, HQ, HB⟩ := hrel
    obtain ⟨wi, hwi⟩ : ∃ wi, wi = wr := ⟨_, rfl⟩
    rw [← hwi] at HG HB ⊢
    clear hwi
    by_cases hkn : k < n
    · have hk1 : (k : Int) < (n : Int) := by omega
      have hk0 : (0 : Int) ≤ (k : Int) := by omega
      have a0 := HG.out.obj.cell? 0
      simp only [List.getElem?_cons_zero] at a0
      have ch := HG.out.grid.head k hkn hkn
      go_wp2_with fail
      clear a0 ch
      go_loopw [22] (fun i wr => ∃ (j : Nat) (q' : G), j ≤ n ∧ i = .int .i64 j ∧ Hid (MG wr M B n q') ∧ Hid (∀ r c, r < k ∨ r = k ∧ c < j → c < n → q' r c = v) ∧ Hid (Mod (MatS B M) w wr)) (fun i _ => n - (intOf i).toNat)
      case atStart => exact ⟨0, q, Nat.zero_le _, rfl, HG, Lib.hid (fun r c h hc => HQ.out r c (by omega) hc), HB⟩
      case round =>
        obtain ⟨j, q', hj, rfl, HG2, HQ2, HB2⟩ := hrel
        obtain ⟨wj, hwj⟩ : ∃ wj, wj = wr := ⟨_, rfl⟩
        rw [← hwj] at HG2 HB2 ⊢
        clear hwj HG HQ HB
        by_cases hjn : j < n
        · have hj1 : (j : Int) < (n : Int) := by omega
          have hj0 : (0 : Int) ≤ (j : Int) := by omega
          have a0 := HG2.out.obj.cell? 0
          simp only [List.getElem?_cons_zero] at a0
          have ch := HG2.out.grid.head k hkn hkn
          have cl := HG2.out.grid.cell k j hkn hjn
          have fl := (HG2.out.grid.row k hkn).free j
          obtain ⟨z, hz⟩ : ∃ z, z = q' k j := ⟨_, rfl⟩
          rw [← hz] at cl
          have HG3 := Lib.hid (HG2.out.set_ (r0 := k) (c0 := j) hkn v)
          have HQ3 : Hid (∀ r c, r < k ∨ r = k ∧ c < j + 1 → c < n → upd q' k j v r c = v) := Lib.hid (fun r c h hc => by
            unfold upd
            by_cases e : r = k ∧ c = j
            · rw [if_pos e]
            · rw [if_neg e]; exact HQ2.out r c (by omega) hc)
          have HB3 := Lib.hid (Mod.mset HB2.out HLT.out (c0 := j) hkn (.int .i8 v))
          clear hz HQ2
          go_wp2_with fail
          go_roundw
          case rel => exact ⟨j + 1, _, by omega, by go_num, HG3, HQ3, HB3⟩
          case measure => simp [intOf]; omega
        · obtain rfl : j = n := by omega
          go_wp2_with fail
          go_roundw
          case rel => exact ⟨k + 1, q', by omega, by go_num, HG2, Lib.hid (fun r c h hc => HQ2.out r c (by omega) hc), HB2⟩
          case measure => simp [intOf]; omega
    · obtain rfl : k = n := by omega
      go_wp2_with fail
      go_end0
      exact ⟨rfl, Lib.hid (HG.out.congr fun r c hr hc => HQ.out r c hr hc), HB⟩

set_option maxRecDepth 100000 in
set_option maxHeartbeats 6400000 in
theorem embFin (x0 y0 : Nat) (hx : x0 + 7 ≤ n) (hy : y0 + 7 ≤ n) (hn : n ≤ 400) (h : MG w M B n g) :
    Calls Try.prog 115 #[.int .i64 x0, .int .i64 y0, .pointer (some ⟨M, 0, none⟩)] w (Emb0 M B n (setP x0 y0 g) w) := by
  have H := Lib.hid h
  have HLT := Lib.hid h.lt
  clear h
  go_enter Try.func115, Try.ntmps115
  go_wp2_with fail
  go_loopw [6] (fun i wr => ∃ (k : Nat) (q : G), k ≤ 7 ∧ i = .int .i64 k ∧ Hid (MG wr M B n q) ∧ Hid (∀ r c, q r c = if y0 ≤ r ∧ r < y0 + k ∧ x0 ≤ c ∧ c < x0 + 7 then pdv (r - y0) (c - x0) else g r c) ∧ Hid (Mod (MatS B M) w wr)) (fun i _ => 7 - (intOf i).toNat)
  case atStart => exact ⟨0, g, Nat.zero_le _, rfl, H, Lib.hid (fun r c => by rw [if_neg (by omega)]), Lib.hid (Mod.refl _)⟩
  case round =>
    obtain ⟨k, q, hk, rfl, HG, HQ, HB⟩ := hrel
    obtain ⟨wi, hwi⟩ : ∃ wi, wi = wr := ⟨_, rfl⟩
    rw [← hwi] at HG HB ⊢
    clear hwi
    by_cases hkn : k < 7
    · have hk1 : (k : Int) < 7 := by omega
      have hk0 : (0 : Int) ≤ (k : Int) := by omega
      go_wp2_with fail
      refine (finTab wi).mono ?_
      rintro e w1 ⟨b, rfl, HTAB, HBE⟩
      obtain ⟨p, hp⟩ := HTAB.out
      obtain ⟨hpb, t1, t2⟩ := hp k hkn
      obtain ⟨P, hP⟩ : ∃ P, P = p k := ⟨_, rfl⟩
      rw [← hP] at hpb t1 t2
      have HPM : Hid (¬ MatS B M P) := Lib.hid (fun hh => by have := HG.out.mlt; unfold MatS at hh; omega)
      have HT2 : Hid (∀ i, i < 7 → w1.cell? ⟨P, i, none⟩ = some (.int .i8 (pdv k i))) := Lib.hid (fun i hi => by rw [t2 i hi, finT_at k hkn i hi])
      have HG1 := Lib.hid (HG.out.below HBE.out)
      have HB1 : Hid (Mod (MatS B M) w w1) := Lib.hid (HB.out.then (Mod.of_below (S := fun _ => False) HBE.out) (fun i _ h => False.elim h))
      clear hp hpb t2 hP HTAB HG HB HBE
      go_wp2_with fail
      clear t1
      go_loopw [8] (fun i wr => ∃ (j : Nat) (q' : G), j ≤ 7 ∧ i = .int .i64 j ∧ Hid (MG wr M B n q') ∧ Hid (∀ r c, q' r c = if r = y0 + k ∧ x0 ≤ c ∧ c < x0 + j then pdv k (c - x0) else q r c) ∧ Hid (Mod (MatS B M) w wr) ∧ Hid (Mod (MatS B M) w1 wr)) (fun i _ => 7 - (intOf i).toNat)
      case atStart => exact ⟨0, q, Nat.zero_le _, rfl, HG1, Lib.hid (fun r c => by rw [if_neg (by omega)]), HB1, Lib.hid (Mod.refl _)⟩
      case round =>
        obtain ⟨j, q', hj, rfl, HG2, HQ2, HB2, HM2⟩ := hrel
        obtain ⟨wj, hwj⟩ : ∃ wj, wj = wr := ⟨_, rfl⟩
        rw [← hwj] at HG2 HB2 HM2 ⊢
        clear hwj HG1 HB1
        by_cases hjn : j < 7
        · have hj1 : (j : Int) < 7 := by omega
          have hj0 : (0 : Int) ≤ (j : Int) := by omega
          have cp := mod_cell HM2.out HPM.out (HT2.out j hjn)
          obtain ⟨X, hX⟩ : ∃ X, X = x0 + j := ⟨_, rfl⟩
          obtain ⟨Y, hY⟩ : ∃ Y, Y = y0 + k := ⟨_, rfl⟩
          have eX : (x0 : Int) + (j : Int) = (X : Int) := by omega
          have eY : (y0 : Int) + (k : Int) = (Y : Int) := by omega
          obtain ⟨z, hz⟩ : ∃ z, z = pdv k j := ⟨_, rfl⟩
          rw [← hz] at cp
          have HS := Lib.hid (mSet X Y z (by omega) (by omega) hn HG2.out)
          have HG3 := Lib.hid (HG2.out.set_ (r0 := Y) (c0 := X) (by omega) z)
          have HQ3 : Hid (∀ r c, upd q' Y X z r c = if r = y0 + k ∧ x0 ≤ c ∧ c < x0 + (j + 1) then pdv k (c - x0) else q r c) := Lib.hid (fun r c => by
            unfold upd
            by_cases e : r = Y ∧ c = X
            · rw [if_pos e, if_pos (by omega), hz, show c - x0 = j by omega]
            · rw [if_neg e, HQ2.out r c]
              by_cases e2 : r = y0 + k ∧ x0 ≤ c ∧ c < x0 + j
              · rw [if_pos e2, if_pos (by omega)]
              · rw [if_neg e2, if_neg (by omega)])
          have HB3 := Lib.hid (Mod.mset HB2.out HLT.out (c0 := X) (show Y < n by omega) (.int .i8 z))
          have HM3 := Lib.hid (Mod.mset HM2.out HLT.out (c0 := X) (show Y < n by omega) (.int .i8 z))
          clear hX hY hz HQ2 HG2 HB2 HM2
          go_wp2_with fail
          refine HS.out.mono ?_
          rintro e w4 ⟨rfl, rfl⟩
          go_wp2_with fail
          go_roundw
          case rel => exact ⟨j + 1, _, by omega, by go_num, HG3, HQ3, HB3, HM3⟩
          case measure => simp [intOf]; omega
        · obtain rfl : j = 7 := by omega
          go_wp2_with fail
          go_roundw
          case rel => exact ⟨k + 1, q', by omega, by go_num, HG2, Lib.hid (fun r c => by
            rw [HQ2.out r c]
            by_cases e : r = y0 + k ∧ x0 ≤ c ∧ c < x0 + 7
            · rw [if_pos e, if_pos (by omega), show r - y0 = k by omega]
            · rw [if_neg e, HQ.out r c]
              by_cases e2 : y0 ≤ r ∧ r < y0 + k ∧ x0 ≤ c ∧ c < x0 + 7
              · rw [if_pos e2, if_pos (by omega)]
              · rw [if_neg e2, if_neg (by omega)]), HB2⟩
          case measure => simp [intOf]; omega
    · obtain rfl : k = 7 := by omega
      go_wp2_with fail
      go_end0
      exact ⟨rfl, Lib.hid (HG.out.congr fun r c hr hc => HQ.out r c), HB⟩

set_option maxRecDepth 100000 in
set_option maxHeartbeats 6400000 in
theorem embAli (x0 y0 : Nat) (hx : x0 + 5 ≤ n) (hy : y0 + 5 ≤ n) (hn : n ≤ 400) (h : MG w M B n g) :
    Calls Try.prog 120 #[.int .i64 x0, .int .i64 y0, .pointer (some ⟨M, 0, none⟩)] w (Emb0 M B n (setA x0 y0 g) w) := by
  have H := Lib.hid h
  have HLT := Lib.hid h.lt
  clear h
  go_enter Try.func120, Try.ntmps120
  go_wp2_with fail
  go_loopw [6] (fun i wr => ∃ (k : Nat) (q : G), k ≤ 5 ∧ i = .int .i64 k ∧ Hid (MG wr M B n q) ∧ Hid (∀ r c, q r c = if y0 ≤ r ∧ r < y0 + k ∧ x0 ≤ c ∧ c < x0 + 5 then pav (r - y0) (c - x0) else g r c) ∧ Hid (Mod (MatS B M) w wr)) (fun i _ => 5 - (intOf i).toNat)
  case atStart => exact ⟨0, g, Nat.zero_le _, rfl, H, Lib.hid (fun r c => by rw [if_neg (by omega)]), Lib.hid (Mod.refl _)⟩
  case round =>
    obtain ⟨k, q, hk, rfl, HG, HQ, HB⟩ := hrel
    obtain ⟨wi, hwi⟩ : ∃ wi, wi = wr := ⟨_, rfl⟩
    rw [← hwi] at HG HB ⊢
    clear hwi
    by_cases hkn : k < 5
    · have hk1 : (k : Int) < 5 := by omega
      have hk0 : (0 : Int) ≤ (k : Int) := by omega
      go_wp2_with fail
      refine (aliTab wi).mono ?_
      rintro e w1 ⟨b, rfl, HTAB, HBE⟩
      obtain ⟨p, hp⟩ := HTAB.out
      obtain ⟨hpb, t1, t2⟩ := hp k hkn
      obtain ⟨P, hP⟩ : ∃ P, P = p k := ⟨_, rfl⟩
      rw [← hP] at hpb t1 t2
      have HPM : Hid (¬ MatS B M P) := Lib.hid (fun hh => by have := HG.out.mlt; unfold MatS at hh; omega)
      have HT2 : Hid (∀ i, i < 5 → w1.cell? ⟨P, i, none⟩ = some (.int .i8 (pav k i))) := Lib.hid (fun i hi => by rw [t2 i hi, aliT_at k hkn i hi])
      have HG1 := Lib.hid (HG.out.below HBE.out)
      have HB1 : Hid (Mod (MatS B M) w w1) := Lib.hid (HB.out.then (Mod.of_below (S := fun _ => False) HBE.out) (fun i _ h => False.elim h))
      clear hp hpb t2 hP HTAB HG HB HBE
      go_wp2_with fail
      clear t1
      go_loopw [8] (fun i wr => ∃ (j : Nat) (q' : G), j ≤ 5 ∧ i = .int .i64 j ∧ Hid (MG wr M B n q') ∧ Hid (∀ r c, q' r c = if r = y0 + k ∧ x0 ≤ c ∧ c < x0 + j then pav k (c - x0) else q r c) ∧ Hid (Mod (MatS B M) w wr) ∧ Hid (Mod (MatS B M) w1 wr)) (fun i _ => 5 - (intOf i).toNat)
      case atStart => exact ⟨0, q, Nat.zero_le _, rfl, HG1, Lib.hid (fun r c => by rw [if_neg (by omega)]), HB1, Lib.hid (Mod.refl _)⟩
      case round =>
        obtain ⟨j, q', hj, rfl, HG2, HQ2, HB2, HM2⟩ := hrel
        obtain ⟨wj, hwj⟩ : ∃ wj, wj = wr := ⟨_, rfl⟩
        rw [← hwj] at HG2 HB2 HM2 ⊢
        clear hwj HG1 HB1
        by_cases hjn : j < 5
        · have hj1 : (j : Int) < 5 := by omega
          have hj0 : (0 : Int) ≤ (j : Int) := by omega
          have cp := mod_cell HM2.out HPM.out (HT2.out j hjn)
          obtain ⟨X, hX⟩ : ∃ X, X = x0 + j := ⟨_, rfl⟩
          obtain ⟨Y, hY⟩ : ∃ Y, Y = y0 + k := ⟨_, rfl⟩
          have eX : (x0 : Int) + (j : Int) = (X : Int) := by omega
          have eY : (y0 : Int) + (k : Int) = (Y : Int) := by omega
          obtain ⟨z, hz⟩ : ∃ z, z = pav k j := ⟨_, rfl⟩
          rw [← hz] at cp
          have HS := Lib.hid (mSet X Y z (by omega) (by omega) hn HG2.out)
          have HG3 := Lib.hid (HG2.out.set_ (r0 := Y) (c0 := X) (by omega) z)
          have HQ3 : Hid (∀ r c, upd q' Y X z r c = if r = y0 + k ∧ x0 ≤ c ∧ c < x0 + (j + 1) then pav k (c - x0) else q r c) := Lib.hid (fun r c => by
            unfold upd
            by_cases e : r = Y ∧ c = X
            · rw [if_pos e, if_pos (by omega), hz, show c - x0 = j by omega]
            · rw [if_neg e, HQ2.out r c]
              by_cases e2 : r = y0 + k ∧ x0 ≤ c ∧ c < x0 + j
              · rw [if_pos e2, if_pos (by omega)]
              · rw [if_neg e2, if_neg (by omega)])
          have HB3 := Lib.hid (Mod.mset HB2.out HLT.out (c0 := X) (show Y < n by omega) (.int .i8 z))
          have HM3 := Lib.hid (Mod.mset HM2.out HLT.out (c0 := X) (show Y < n by omega) (.int .i8 z))
          clear hX hY hz HQ2 HG2 HB2 HM2
          go_wp2_with fail
          refine HS.out.mono ?_
          rintro e w4 ⟨rfl, rfl⟩
          go_wp2_with fail
          go_roundw
          case rel => exact ⟨j + 1, _, by omega, by go_num, HG3, HQ3, HB3, HM3⟩
          case measure => simp [intOf]; omega
        · obtain rfl : j = 5 := by omega
          go_wp2_with fail
          go_roundw
          case rel => exact ⟨k + 1, q', by omega, by go_num, HG2, Lib.hid (fun r c => by
            rw [HQ2.out r c]
            by_cases e : r = y0 + k ∧ x0 ≤ c ∧ c < x0 + 5
            · rw [if_pos e, if_pos (by omega), show r - y0 = k by omega]
            · rw [if_neg e, HQ.out r c]
              by_cases e2 : y0 ≤ r ∧ r < y0 + k ∧ x0 ≤ c ∧ c < x0 + 5
              · rw [if_pos e2, if_pos (by omega)]
              · rw [if_neg e2, if_neg (by omega)]), HB2⟩
          case measure => simp [intOf]; omega
    · obtain rfl : k = 5 := by omega
      go_wp2_with fail
      go_end0
      exact ⟨rfl, Lib.hid (HG.out.congr fun r c hr hc => HQ.out r c), HB⟩

set_option maxRecDepth 100000 in
set_option maxHeartbeats 6400000 in
theorem embHs (x0 y0 : Nat) (hx : x0 + 8 ≤ n) (hy : y0 < n) (hn : n ≤ 400) (hf : ∀ k, k < 8 → g y0 (x0 + k) = -1) (h : MG w M B n g) :
    Calls Try.prog 116 #[.int .i64 x0, .int .i64 y0, .pointer (some ⟨M, 0, none⟩)] w (Emb1 M B n (hs x0 y0 g) w) := by
  have H := Lib.hid h
  have HLT := Lib.hid h.lt
  have HF := Lib.hid hf
  clear h hf
  go_enter Try.func116, Try.ntmps116
  go_wp2_with fail
  go_loopw [7] (fun i wr => ∃ (k : Nat) (q : G), k ≤ 8 ∧ i = .int .i64 k ∧ Hid (MG wr M B n q) ∧ Hid (∀ r c, q r c = if r = y0 ∧ x0 ≤ c ∧ c < x0 + k then 0 else g r c) ∧ Hid (Mod (MatS B M) w wr)) (fun i _ => 8 - (intOf i).toNat)
  case atStart => exact ⟨0, g, Nat.zero_le _, rfl, H, Lib.hid (fun r c => by rw [if_neg (by omega)]), Lib.hid (Mod.refl _)⟩
  case round =>
    obtain ⟨k, q, hk, rfl, HG, HQ, HB⟩ := hrel
    obtain ⟨wi, hwi⟩ : ∃ wi, wi = wr := ⟨_, rfl⟩
    rw [← hwi] at HG HB ⊢
    clear hwi
    by_cases hkn : k < 8
    · have hk1 : (k : Int) < 8 := by omega
      have hk0 : (0 : Int) ≤ (k : Int) := by omega
      obtain ⟨X, hX⟩ : ∃ X, X = x0 + k := ⟨_, rfl⟩
      have eX : (x0 : Int) + (k : Int) = (X : Int) := by omega
      have hz : q y0 X = -1 := by rw [HQ.out, if_neg (by omega), hX]; exact HF.out k hkn
      have HGE := Lib.hid (mGet X y0 (by omega) (by omega) hn HG.out)
      rw [hz] at HGE
      have HS := Lib.hid (mSet X y0 0 (by omega) (by omega) hn HG.out)
      have HG3 := Lib.hid (HG.out.set_ (r0 := y0) (c0 := X) (by omega) 0)
      have HQ3 : Hid (∀ r c, upd q y0 X 0 r c = if r = y0 ∧ x0 ≤ c ∧ c < x0 + (k + 1) then 0 else g r c) := Lib.hid (fun r c => by
        unfold upd
        by_cases e : r = y0 ∧ c = X
        · rw [if_pos e, if_pos (by omega)]
        · rw [if_neg e, HQ.out r c]
          by_cases e2 : r = y0 ∧ x0 ≤ c ∧ c < x0 + k
          · rw [if_pos e2, if_pos (by omega)]
          · rw [if_neg e2, if_neg (by omega)])
      have HB3 := Lib.hid (Mod.mset HB.out HLT.out (c0 := X) (show y0 < n by omega) (.int .i8 0))
      have HI := Lib.hid (isEmp (-1) wi)
      clear hX hz HQ HG HB
      go_wp2_with fail
      refine HGE.out.mono ?_
      rintro e w4 ⟨rfl, rfl⟩
      go_wp2_with fail
      refine HI.out.mono ?_
      rintro e w4 ⟨rfl, rfl⟩
      go_wp2_with fail
      refine HS.out.mono ?_
      rintro e w4 ⟨rfl, rfl⟩
      go_wp2_with fail
      go_roundw
      case rel => exact ⟨k + 1, _, by omega, by go_num, HG3, HQ3, HB3⟩
      case measure => simp [intOf]; omega
    · obtain rfl : k = 8 := by omega
      go_wp2_with fail
      go_ret
      exact ⟨rfl, Lib.hid (HG.out.congr fun r c hr hc => HQ.out r c), HB⟩

set_option maxRecDepth 100000 in
set_option maxHeartbeats 6400000 in
theorem embVs (x0 y0 : Nat) (hx : x0 < n) (hy : y0 + 7 ≤ n) (hn : n ≤ 400) (hf : ∀ k, k < 7 → g (y0 + k) x0 = -1) (h : MG w M B n g) :
    Calls Try.prog 117 #[.int .i64 x0, .int .i64 y0, .pointer (some ⟨M, 0, none⟩)] w (Emb1 M B n (vs x0 y0 g) w) := by
  have H := Lib.hid h
  have HLT := Lib.hid h.lt
  have HF := Lib.hid hf
  clear h hf
  go_enter Try.func117, Try.ntmps117
  go_wp2_with fail
  go_loopw [7] (fun i wr => ∃ (k : Nat) (q : G), k ≤ 7 ∧ i = .int .i64 k ∧ Hid (MG wr M B n q) ∧ Hid (∀ r c, q r c = if c = x0 ∧ y0 ≤ r ∧ r < y0 + k then 0 else g r c) ∧ Hid (Mod (MatS B M) w wr)) (fun i _ => 7 - (intOf i).toNat)
  case atStart => exact ⟨0, g, Nat.zero_le _, rfl, H, Lib.hid (fun r c => by rw [if_neg (by omega)]), Lib.hid (Mod.refl _)⟩
  case round =>
    obtain ⟨k, q, hk, rfl, HG, HQ, HB⟩ := hrel
    obtain ⟨wi, hwi⟩ : ∃ wi, wi = wr := ⟨_, rfl⟩
    rw [← hwi] at HG HB ⊢
    clear hwi
    by_cases hkn : k < 7
    · have hk1 : (k : Int) < 7 := by omega
      have hk0 : (0 : Int) ≤ (k : Int) := by omega
      obtain ⟨Y, hY⟩ : ∃ Y, Y = y0 + k := ⟨_, rfl⟩
      have eX : (y0 : Int) + (k : Int) = (Y : Int) := by omega
      have hz : q Y x0 = -1 := by rw [HQ.out, if_neg (by omega), hY]; exact HF.out k hkn
      have HGE := Lib.hid (mGet x0 Y (by omega) (by omega) hn HG.out)
      rw [hz] at HGE
      have HS := Lib.hid (mSet x0 Y 0 (by omega) (by omega) hn HG.out)
      have HG3 := Lib.hid (HG.out.set_ (r0 := Y) (c0 := x0) (by omega) 0)
      have HQ3 : Hid (∀ r c, upd q Y x0 0 r c = if c = x0 ∧ y0 ≤ r ∧ r < y0 + (k + 1) then 0 else g r c) := Lib.hid (fun r c => by
        unfold upd
        by_cases e : r = Y ∧ c = x0
        · rw [if_pos e, if_pos (by omega)]
        · rw [if_neg e, HQ.out r c]
          by_cases e2 : c = x0 ∧ y0 ≤ r ∧ r < y0 + k
          · rw [if_pos e2, if_pos (by omega)]
          · rw [if_neg e2, if_neg (by omega)])
      have HB3 := Lib.hid (Mod.mset HB.out HLT.out (c0 := x0) (show Y < n by omega) (.int .i8 0))
      have HI := Lib.hid (isEmp (-1) wi)
      clear hY hz HQ HG HB
      go_wp2_with fail
      refine HGE.out.mono ?_
      rintro e w4 ⟨rfl, rfl⟩
      go_wp2_with fail
      refine HI.out.mono ?_
      rintro e w4 ⟨rfl, rfl⟩
      go_wp2_with fail
      refine HS.out.mono ?_
      rintro e w4 ⟨rfl, rfl⟩
      go_wp2_with fail
      go_roundw
      case rel => exact ⟨k + 1, _, by omega, by go_num, HG3, HQ3, HB3⟩
      case measure => simp [intOf]; omega
    · obtain rfl : k = 7 := by omega
      go_wp2_with fail
      go_ret
      exact ⟨rfl, Lib.hid (HG.out.congr fun r c hr hc => HQ.out r c), HB⟩
end Go.Proofs.Ythkiajighmhdoaa
