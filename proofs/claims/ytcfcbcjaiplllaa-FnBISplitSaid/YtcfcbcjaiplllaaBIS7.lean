/-
  FnBISplit, walked: for every input the law returns true. No condition beyond what the statement's own domain gives.
-/
import Derived.Test.YtcfcbcjaiplllaaBIS6
import Derived.Deep.RegionHeld3
import Derived.Deep.AppendLies
import Derived.Outline
namespace Go.Proofs.Ytcfcbcjaiplllaa
open Go.RowKit Go.Qz Go.Qz.BS
set_option linter.unusedVariables false

theorem Try.infoStep : (Try.prog.info? 47).map (fun i => (i.zero, i.size, i.bytes)) = some (some (.agg #[.int .i64 0, .int .i64 0, .int .i64 0, .slice none 0 0]), 4, 48) := by kernel_rfl

theorem flat_len {α : Type} (f : Nat → List α) (s : Nat) (hf : ∀ j, (f j).length = s) : ∀ m, ((List.range m).flatMap f).length = m * s
  | 0 => by simp
  | m + 1 => by rw [List.range_succ, List.flatMap_append, List.length_append, flat_len f s hf m, Nat.succ_mul]; simp [hf]
theorem flat_at {α : Type} (f : Nat → List α) (s : Nat) (hf : ∀ j, (f j).length = s) : ∀ m j i, j < m → i < s → ((List.range m).flatMap f)[j * s + i]? = (f j)[i]?
  | 0, j, i, hj, _ => absurd hj (by omega)
  | m + 1, j, i, hj, hi => by
    rw [List.range_succ, List.flatMap_append]
    by_cases h : j < m
    · have hl : j * s + i < ((List.range m).flatMap f).length := by
        rw [flat_len f s hf]
        have : (j + 1) * s ≤ m * s := Nat.mul_le_mul_right s h
        rw [Nat.succ_mul] at this; omega
      rw [List.getElem?_append_left hl]; exact flat_at f s hf m j i h hi
    · obtain rfl : j = m := by omega
      rw [List.getElem?_append_right (by rw [flat_len f s hf]; omega), flat_len f s hf, show j * s + i - j * s = i by omega]
      simp
/-- A row of structs of the call's own, read cell by cell. -/
theorem own_structs {w : World} {base : Nat} {e : TypeId} {s m : Nat} {v : Value} (f : Nat → List Value) (hf : ∀ j, (f j).length = s) (h : w.ownsRow base e s v m ((List.range m).flatMap f)) :
    ∃ A c, v = .slice A m c ∧ m ≤ c ∧ c ≤ maxLen ∧ (0 < m → ∃ b off, A = some ⟨b, off, none⟩ ∧ b < w.heap.size ∧ ∀ j, j < m → ∀ i u, (f j)[i]? = some u → w.cell? ⟨b, off + j * s + i, none⟩ = some u) := by
  rcases h.2 with ⟨rfl, rfl⟩ | ⟨g, cap, cur, rfl, hb, hh, hc, hm, hz, ht⟩
  · exact ⟨none, 0, rfl, Nat.le_refl _, by unfold maxLen; omega, fun h => absurd h (by omega)⟩
  · refine ⟨_, _, rfl, hc, hm, fun _ => ⟨g, 0, rfl, (Array.getElem?_eq_some_iff.1 hh).1, fun j hj i u hu => ?_⟩⟩
    have hi : i < s := by
      rcases Nat.lt_or_ge i s with h | h
      · exact h
      · rw [List.getElem?_eq_none (by rw [hf]; exact h)] at hu; cases hu
    rw [cell_of_row w g _ cur e (0, 0) hh, Nat.zero_add]
    have h1 := flat_at f s hf m j i hj hi
    rw [hu, ← ht, List.getElem?_take] at h1
    split at h1
    · simpa using h1
    · cases h1

set_option maxRecDepth 1000000 in
theorem and1_u8 : ∀ a : Nat, a < 256 → bits .and .u8 (a : Int) 1 = ((a % 2 : Nat) : Int) := by decide +kernel

set_option maxRecDepth 100000 in
set_option maxHeartbeats 12800000 in
theorem fnBISplit (w : World) (A1 : Option Addr) (n1 c1 : Nat) (z1 : Nat → Int) (hnc1 : n1 ≤ c1) (hcm1 : c1 ≤ maxLen) (hz1 : ∀ j, j < n1 → (Lit.int .u8 (z1 j)).wf = true) (h1 : Rd w A1 n1 (fun j => .int .u8 (z1 j)))
    (A2 : Option Addr) (n2 c2 : Nat) (z2 : Nat → Int) (hnc2 : n2 ≤ c2) (hcm2 : c2 ≤ maxLen) (hz2 : ∀ j, j < n2 → (Lit.int .u8 (z2 j)).wf = true) (h2 : Rd w A2 n2 (fun j => .int .u8 (z2 j))) :
    Calls Try.prog 6 #[.slice A1 n1 c1, .slice A2 n2 c2] w fun e w' => e = .returned (.bool true) ∧ Below w.heap.size w w' := by
  unfold maxLen at hcm1 hcm2
  by_cases hbig : 2147483647 < n1
  · go_enter Try.func6, Try.ntmps6
    go_wp2_with fail
    go_ret
    exact ⟨rfl, Below.refl _ _⟩
  by_cases hbig2 : 2147483647 < n2
  · go_enter Try.func6, Try.ntmps6
    go_wp2_with fail
    go_ret
    exact ⟨rfl, Below.refl _ _⟩
  obtain ⟨n, hn⟩ : ∃ n, n = min n1 40 := ⟨_, rfl⟩
  have hn40 : n ≤ 40 := by omega
  obtain ⟨B, hB⟩ : ∃ B : List Nat, B = (List.range n).map fun j => (z1 j).toNat := ⟨_, rfl⟩
  have hBl : B.length = n := by rw [hB]; simp
  have hBz : ∀ j, j < n → z1 j = ((nth B j : Nat) : Int) ∧ nth B j < 256 := fun j hj => by
    have := bd_u8 (hz1 j (by omega))
    rw [hB, nth_map_range _ _ _ hj]; omega
  have hB256 : ∀ j, nth B j < 256 := fun j => by
    by_cases hj : j < n
    · exact (hBz j hj).2
    · unfold nth; rw [List.getD_eq_getElem?_getD, List.getElem?_eq_none (by omega)]; show 0 < 256; omega
  have hr1 : Rd w A1 n (fun j => .int .u8 (nth B j : Nat)) := fun h0 => by
    obtain ⟨b, off, e1, e2, e3⟩ := h1 (by omega)
    exact ⟨b, off, e1, e2, fun j hj => by rw [e3 j (by omega)]; dsimp only; rw [(hBz j hj).1]⟩
  have HR1 := Lib.hid hr1
  have HBL := Lib.hid hBl
  have HB256 := Lib.hid hB256
  have HZ2 := Lib.hid hz2
  have H2 := Lib.hid h2
  have HN := Lib.hid hn
  clear hr1 hBl hB256 hBz hB hz1 hz2 h1 h2 hn
  go_enter Try.func6, Try.ntmps6
  go_upto_region 3 with (fail)
  go_cut [0] (fun a wx => w = wx ∧ a = .slice A1 n c1)
  case first =>
    have hn := HN.out
    obtain hlt | hlt | hlt : n1 < 40 ∨ n1 = 40 ∨ 40 < n1 := by omega
    · obtain rfl : n = n1 := by omega
      clear hn
      go_wp2_with fail
      go_meet
      case rel => exact ⟨rfl, rfl⟩
    · obtain rfl : n = n1 := by omega
      clear hn
      have h40 : (n : Int) = 40 := by omega
      have h40' : n = 40 := by omega
      subst h40'
      clear h40 hlt HN
      go_wp2_with fail
      go_meet
      case rel => exact ⟨rfl, rfl⟩
    · obtain rfl : n = 40 := by omega
      clear hn
      have hl1 : (40 : Int) < (n1 : Int) := by omega
      have hl2 : (40 : Int) ≤ (c1 : Int) := by omega
      go_wp2_with fail
      go_meet
      case rel => exact ⟨rfl, rfl⟩
  case rest =>
    obtain ⟨rfl, rfl⟩ := hcut
    clear HN hbig hnc1
    obtain ⟨tot, htot⟩ : ∃ tot, tot = 8 * n := ⟨_, rfl⟩
    have ht1 : (8 : Int) * (n : Int) = (tot : Int) := by omega
    have htl : tot ≤ 320 := by omega
    have HT := Lib.hid htot
    clear htot
    go_wp2_with fail
    go_loopw [5, 6, 7] (fun a l i wr => ∃ (q left : Nat) (ks : List Nat), q ≤ n2 ∧ i = .int .i64 q ∧ l = .int .i64 left ∧ Hid (left + ks.sum = tot) ∧ Hid (ks.length ≤ ks.sum ∧ ∀ x ∈ ks, 1 ≤ x ∧ x ≤ 31) ∧ Hid (wr.ownsRow w.heap.size 3 1 a ks.length (ks.map fun x : Nat => Value.int .i64 x)) ∧ Hid (Below w.heap.size w wr)) (fun _ _ i _ => n2 - (intOf i).toNat)
    case atStart => exact ⟨0, tot, [], Nat.zero_le _, rfl, rfl, Lib.hid (by simp), Lib.hid (by simp), Lib.hid (World.ownsRow_nil _ _ _ _), Lib.hid (Below.refl _ _)⟩
    case round =>
      obtain ⟨q, left, ks, hq, rfl, rfl, HL, HK, HO, HBE⟩ := hrel
      by_cases hgo : q < n2 ∧ 0 < left
      · obtain ⟨hlt, hl0⟩ := hgo
        have hq1 : (q : Int) < (n2 : Int) := by omega
        have hq0 : (0 : Int) ≤ (q : Int) := by omega
        have hl1 : (0 : Int) < (left : Int) := by omega
        obtain ⟨b2, o2, e2, hb2, hc2⟩ := (H2.out.below HBE.out) (by omega)
        have hcell := hc2 q hlt
        dsimp only at hcell
        have hw2 := bd_u8 (HZ2.out q hlt)
        obtain ⟨y, hy⟩ : ∃ y : Nat, (y : Int) = z2 q := ⟨(z2 q).toNat, by omega⟩
        rw [← hy] at hcell
        have hy255 : y ≤ 255 := by omega
        subst e2
        clear hc2 hw2 hy
        have hll : left ≤ 320 := by have := HL.out; omega
        have hkl : ks.length ≤ 320 := by have := HL.out; have := HK.out.1; omega
        obtain ⟨r, hr⟩ : ∃ r, r = y % 31 := ⟨_, rfl⟩
        have er : (y : Int) % 31 = (r : Int) := by omega
        have hr31 : r < 31 := by omega
        obtain ⟨u, hu⟩ : ∃ u, u = 1 + r := ⟨_, rfl⟩
        have eu : 1 + (r : Int) = (u : Int) := by omega
        have hu1 : 1 ≤ u ∧ u ≤ 31 := by omega
        clear hr hu
        obtain hmin | hmin | hmin : u < left ∨ u = left ∨ left < u := by omega
        · have hmin1 : (u : Int) < (left : Int) := by omega
          have hown := HO.out
          obtain ⟨left2, hl2⟩ : ∃ left2, left2 = left - u := ⟨_, rfl⟩
          have hwl : IntKind.i64.wrap ((left : Int) - (u : Int)) = (left2 : Int) := by rw [IntKind.wrap_i64]; omega
          have hwl' : (left : Int) - (u : Int) = (left2 : Int) := by omega
          have HL2 : Hid (left2 + (ks ++ [u]).sum = tot) := Lib.hid (by have := HL.out; rw [List.sum_append]; simp; omega)
          have HK2 : Hid ((ks ++ [u]).length ≤ (ks ++ [u]).sum ∧ ∀ x ∈ ks ++ [u], 1 ≤ x ∧ x ≤ 31) := Lib.hid ⟨by have := HK.out.1; rw [List.sum_append, List.length_append]; simp; omega, fun x hx => by
            rcases List.mem_append.1 hx with h | h
            · exact HK.out.2 x h
            · have : x = u := by simpa using h
              omega⟩
          clear hl2
          go_wp2_with (at_builtin; refine wpList_push _ _ 42 w.heap.size 3 (.int .i64 0) 8 _ ks.length _ (.int .i64 (u : Nat)) rfl rfl rfl rfl Try.underlying42 Try.infoInt rfl rfl (by decide) hown (by omega) HBE.out.size ?_)
          intro v5 w5 hown5 hgr5 hb5
          have HO5 : Hid (w5.ownsRow w.heap.size 3 1 v5 (ks ++ [u]).length ((ks ++ [u]).map fun x : Nat => Value.int .i64 x)) := Lib.hid (by rw [List.map_append, List.length_append]; exact hown5)
          have HB5 := Lib.hid (HBE.out.trans hb5)
          clear hown hown5 hgr5 hb5 HO HBE
          go_wp2_with fail
          go_roundw
          case rel => exact ⟨q + 1, left2, ks ++ [u], by omega, by go_num, rfl, HL2, HK2, HO5, HB5⟩
          case measure => simp [intOf]; omega
        · subst hmin
          have hown := HO.out
          obtain ⟨left2, hl2⟩ : ∃ left2, left2 = u - u := ⟨_, rfl⟩
          have hwl : IntKind.i64.wrap ((u : Int) - (u : Int)) = (left2 : Int) := by rw [IntKind.wrap_i64]; omega
          have hwl' : (u : Int) - (u : Int) = (left2 : Int) := by omega
          have HL2 : Hid (left2 + (ks ++ [u]).sum = tot) := Lib.hid (by have := HL.out; rw [List.sum_append]; simp; omega)
          have HK2 : Hid ((ks ++ [u]).length ≤ (ks ++ [u]).sum ∧ ∀ x ∈ ks ++ [u], 1 ≤ x ∧ x ≤ 31) := Lib.hid ⟨by have := HK.out.1; rw [List.sum_append, List.length_append]; simp; omega, fun x hx => by
            rcases List.mem_append.1 hx with h | h
            · exact HK.out.2 x h
            · have : x = u := by simpa using h
              omega⟩
          clear hl2
          go_wp2_with (at_builtin; refine wpList_push _ _ 42 w.heap.size 3 (.int .i64 0) 8 _ ks.length _ (.int .i64 (u : Nat)) rfl rfl rfl rfl Try.underlying42 Try.infoInt rfl rfl (by decide) hown (by omega) HBE.out.size ?_)
          intro v5 w5 hown5 hgr5 hb5
          have HO5 : Hid (w5.ownsRow w.heap.size 3 1 v5 (ks ++ [u]).length ((ks ++ [u]).map fun x : Nat => Value.int .i64 x)) := Lib.hid (by rw [List.map_append, List.length_append]; exact hown5)
          have HB5 := Lib.hid (HBE.out.trans hb5)
          clear hown hown5 hgr5 hb5 HO HBE
          go_wp2_with fail
          go_roundw
          case rel => exact ⟨q + 1, left2, ks ++ [u], by omega, by go_num, rfl, HL2, HK2, HO5, HB5⟩
          case measure => simp [intOf]; omega
        · have hmin1 : (left : Int) < (u : Int) := by omega
          have hown := HO.out
          obtain ⟨left2, hl2⟩ : ∃ left2, left2 = left - left := ⟨_, rfl⟩
          have hwl : IntKind.i64.wrap ((left : Int) - (left : Int)) = (left2 : Int) := by rw [IntKind.wrap_i64]; omega
          have hwl' : (left : Int) - (left : Int) = (left2 : Int) := by omega
          have HL2 : Hid (left2 + (ks ++ [left]).sum = tot) := Lib.hid (by have := HL.out; rw [List.sum_append]; simp; omega)
          have HK2 : Hid ((ks ++ [left]).length ≤ (ks ++ [left]).sum ∧ ∀ x ∈ ks ++ [left], 1 ≤ x ∧ x ≤ 31) := Lib.hid ⟨by have := HK.out.1; rw [List.sum_append, List.length_append]; simp; omega, fun x hx => by
            rcases List.mem_append.1 hx with h | h
            · exact HK.out.2 x h
            · have : x = left := by simpa using h
              omega⟩
          clear hl2
          go_wp2_with (at_builtin; refine wpList_push _ _ 42 w.heap.size 3 (.int .i64 0) 8 _ ks.length _ (.int .i64 (left : Nat)) rfl rfl rfl rfl Try.underlying42 Try.infoInt rfl rfl (by decide) hown (by omega) HBE.out.size ?_)
          intro v5 w5 hown5 hgr5 hb5
          have HO5 : Hid (w5.ownsRow w.heap.size 3 1 v5 (ks ++ [left]).length ((ks ++ [left]).map fun x : Nat => Value.int .i64 x)) := Lib.hid (by rw [List.map_append, List.length_append]; exact hown5)
          have HB5 := Lib.hid (HBE.out.trans hb5)
          clear hown hown5 hgr5 hb5 HO HBE
          go_wp2_with fail
          go_roundw
          case rel => exact ⟨q + 1, left2, ks ++ [left], by omega, by go_num, rfl, HL2, HK2, HO5, HB5⟩
          case measure => simp [intOf]; omega
      · obtain hno | hno : ((q : Int) < (n2 : Int) ∧ ((0 : Int) < (left : Int)) = False) ∨ ((q : Int) < (n2 : Int)) = False := by
          by_cases h : q < n2
          · exact .inl ⟨by omega, by simp; omega⟩
          · exact .inr (by simp; omega)
        all_goals
          obtain ⟨A', c', hve, hc', hcm', hr'⟩ := Rd.of_own HO.out
          have hr2 : Rd wr A' ks.length (fun j => .int .i64 (nth ks j : Nat)) := hr'.congr fun j hj => by
            rw [List.getD_eq_getElem?_getD, List.getElem?_map, List.getElem?_eq_getElem hj, nth_eq hj]; rfl
          obtain ⟨m, hm⟩ : ∃ m, m = ks.length := ⟨_, rfl⟩
          have hsum : ks.sum ≤ 320 := by have := HL.out; omega
          have hml : m ≤ 320 := by have := HK.out.1; omega
          have hk31 : ∀ j, j < m → 1 ≤ nth ks j ∧ nth ks j ≤ 31 := fun j hj => HK.out.2 _ (nth_mem (by omega))
          have hsr := sourceRead B ks A1 A' n c1 m c' HBL.out.symm hm (by omega) (by omega) (fun j hj => ⟨(hk31 j hj).1, by have := (hk31 j hj).2; omega⟩) (by have := HL.out; have := HT.out; omega) HB256.out wr (HR1.out.below HBE.out) (by rw [hm]; exact hr2)
          have HSR := Lib.hid hsr
          have HK31 := Lib.hid hk31
          have HRL := Lib.hid hr2
          have HSUM := Lib.hid hsum
          subst hve
          rw [← hm] at HRL hc' ⊢
          have HM := Lib.hid hm
          clear hr' hr2 hsr hk31 hm hsum
          try (obtain ⟨hq1, hq2⟩ := hno)
          go_wp2_with fail
          refine HSR.out.mono ?_
          rintro e w3 ⟨v1, v2, v3, rfl, ho1, ho2, hb3⟩
          rw [← HM.out] at ho1 ho2
          obtain ⟨B1, d1, rfl, hd1, _, hrv⟩ := Rd.of_own ho1
          obtain ⟨B2, d2, rfl, hd2, _, hrf⟩ := Rd.of_own ho2
          have hrv2 : Rd w3 B1 m (fun j => .int .i64 (num B (pos ks j) (nth ks j) : Nat)) := hrv.congr fun j hj => by
            unfold vals; rw [List.getD_eq_getElem?_getD, List.getElem?_map, List.getElem?_range hj]; rfl
          have hrf2 : Rd w3 B2 m (fun j => .bool true) := hrf.congr fun j hj => by
            unfold trues; rw [List.getD_eq_getElem?_getD, List.getElem?_map, List.getElem?_range hj]; rfl
          have HV := Lib.hid hrv2
          have HF := Lib.hid hrf2
          have HB3 := Lib.hid (HBE.out.trans (hb3.mono HBE.out.size))
          have HRL3 := Lib.hid (HRL.out.below hb3)
          clear ho1 ho2 hrv hrf hrv2 hrf2 hb3 HSR
          go_wp2_with fail
          obtain ⟨E, hE⟩ : ∃ E, E = w3.heap.size := ⟨_, rfl⟩
          have HE := Lib.hid hE
          clear hE
          go_loopw [12, 13] (fun a i wr => ∃ (t : Nat), t ≤ m ∧ i = .int .i64 t ∧ Hid (wr.ownsRow E 47 4 a t ((List.range t).flatMap (stepCells B ks))) ∧ Hid (Below E w3 wr)) (fun _ i _ => m - (intOf i).toNat)
          case atStart => exact ⟨0, Nat.zero_le _, rfl, Lib.hid (World.ownsRow_nil _ _ _ _), Lib.hid (Below.refl _ _)⟩
          case round =>
            obtain ⟨t, ht, rfl, HO2, HBE2⟩ := hrel
            by_cases hlt : t < m
            · have ht1 : (t : Int) < (m : Int) := by omega
              have ht0 : (0 : Int) ≤ (t : Int) := by omega
              obtain ⟨x1, y1, e1, hx1, hcc1⟩ := HV.out (by omega)
              obtain ⟨x2, y2, e2, hx2, hcc2⟩ := HF.out (by omega)
              obtain ⟨x3, y3, e3, hx3, hcc3⟩ := HRL3.out (by omega)
              subst e1 e2 e3
              have g1 := (HBE2.out.cell (p := ⟨x1, y1 + t, none⟩) (show x1 < E by have := HE.out; omega)).trans (hcc1 t hlt)
              have g2 := (HBE2.out.cell (p := ⟨x2, y2 + t, none⟩) (show x2 < E by have := HE.out; omega)).trans (hcc2 t hlt)
              have g3 := (HBE2.out.cell (p := ⟨x3, y3 + t, none⟩) (show x3 < E by have := HE.out; omega)).trans (hcc3 t hlt)
              dsimp only at g1 g2 g3
              clear hcc1 hcc2 hcc3
              obtain ⟨k, hk⟩ : ∃ k, k = nth ks t := ⟨_, rfl⟩
              obtain ⟨v, hv⟩ : ∃ v, v = num B (pos ks t) k := ⟨_, rfl⟩
              rw [← hk] at g1 g3
              rw [← hv] at g1
              have HKV : Hid (stepCells B ks t = [.int .i64 6, .int .i64 v, .int .i64 k, .slice none 0 0]) := Lib.hid (by unfold stepCells; rw [hv, hk])
              clear hk hv
              have hx1E : x1 < E := by have := HE.out; omega
              have hx3E : x3 < E := by have := HE.out; omega
              have hEw : E ≤ wr.heap.size := by have := HBE2.out.size; have := HE.out; omega
              have hlo := fun k hk => (HO2.out.lt k hk).1
              have HLO := Lib.hid hlo
              have hown := HO2.out
              have hwt : IntKind.i64.wrap ((t : Int) + 1) = (t : Int) + 1 := by rw [IntKind.wrap_i64]; omega
              obtain ⟨i0, hi0, hz0, hz1, hz2⟩ := info_parts Try.infoStep
              have hs0 : wr.drew.cell? ⟨x1, y1 + t, none⟩ = some (.int .i64 v) ∧ wr.drew.cell? ⟨x3, y3 + t, none⟩ = some (.int .i64 k) := ⟨g1, g3⟩
              clear hlo
              go_wp2_with fail
              go_region_held3 (fun w' => w'.cell? ⟨x1, y1 + t, none⟩ = some (.int .i64 v) ∧ w'.cell? ⟨x3, y3 + t, none⟩ = some (.int .i64 k))
                (first
                  | exact hs0
                  | go_keep
                  | (go_split_ands
                     refine ⟨?_, ?_⟩
                     · (rw [hgrow.cell_far _ (by simp; omega) (fun e => by have h9 := HLO.out x1 e.symm; omega)]; assumption)
                     · (rw [hgrow.cell_far _ (by simp; omega) (fun e => by have h9 := HLO.out x3 e.symm; omega)]; assumption)))
                ((refine step_append_lies _ (by rfl) _ _ _ (by rfl) E 47 i0 (.agg #[.int .i64 0, .int .i64 0, .int .i64 0, .slice none 0 0]) 4 48 Try.underlying45 hi0 hz0 hz1 hz2 rfl (by omega) _ t _ (by rfl) ((hown.alloc _).drew)
                    ⟨wr.heap.size, 0, none⟩ 1 1 [.int .i64 6, .int .i64 v, .int .i64 k, .slice none 0 0] (by rfl) (by rfl) (World.news_of_block (cs := #[.int .i64 6, .int .i64 v, .int .i64 k, .slice none 0 0]) (t := 47) (fr := (0, 0)) (heap_alloc_new wr _)) (by simp [Value.oneCell'])
                    (by omega) (by unfold maxLen; omega) (by omega) (by simp; omega) (wr.heap.size + 1) (by simp) ?_; intro gg cap w1 hown1 hgrow hat hlt))
              have HO6 : Hid (w1.ownsRow E 47 4 (.slice (some ⟨gg, 0, none⟩) (t + 1) cap) (t + 1) ((List.range (t + 1)).flatMap (stepCells B ks))) := Lib.hid (by
                rw [List.range_succ, List.flatMap_append]
                have : List.flatMap (stepCells B ks) [t] = stepCells B ks t := by simp
                rw [this, HKV.out]; exact hown1)
              have HB6 : Hid (Below E w3 w1) := Lib.hid ((HBE2.out.trans (below_drewN ((Below.refl E wr).alloc hEw _) 1)).grown hgrow (by show E ≤ (wr.alloc _).heap.size; simp; omega) (fun k hk => HLO.out k hk))
              clear hown1 hgrow hat hlt hown HO2 HBE2 hs0 g1 g2 g3
              go_wp2_with fail
              go_roundw
              case rel => exact ⟨t + 1, by omega, by go_num, HO6, HB6⟩
              case measure => simp [intOf]; omega
            · obtain rfl : t = m := by omega
              have htt : ((t : Int) < (t : Int)) = False := by simp
              obtain ⟨S5, c5, rfl, hc5, hm5, hst⟩ := own_structs (stepCells B ks) (fun _ => rfl) HO2.out
              have har := arrayRun B ks S5 t c5 HM.out (by omega) (fun j hj => by have := HK31.out j hj; omega) (by have := HSUM.out; omega) HB256.out wr hst
              have HAR := Lib.hid har
              have HB7 := Lib.hid (HB3.out.trans (HBE2.out.mono (by have := HE.out; have := HB3.out.size; omega)))
              obtain ⟨S, hS⟩ : ∃ S, S = ks.sum := ⟨_, rfl⟩
              rw [← hS] at HSUM HL
              have hSl : S ≤ 320 := HSUM.out
              have hst2 : (tot : Int) - (left : Int) = (S : Int) := by have := HL.out; omega
              have HS := Lib.hid hS
              clear har hst hS HO2 HBE2
              go_wp2_with fail
              refine HAR.out.mono ?_
              rintro e w8 ⟨A8, c8, v8, rfl, hr8, hb8⟩
              rw [← HS.out] at hr8 ⊢
              have HR8 := Lib.hid hr8
              have HB8 := Lib.hid (HB7.out.trans (hb8.mono HB7.out.size))
              clear hr8 hb8 HAR
              go_wp2_with fail
              go_loopw [17] (fun i wr => ∃ (j : Nat), j ≤ S ∧ i = .int .i64 j ∧ Hid (Below w8.heap.size w8 wr)) (fun i _ => S - (intOf i).toNat)
              case atStart => exact ⟨0, Nat.zero_le _, rfl, Lib.hid (Below.refl _ _)⟩
              case round =>
                obtain ⟨j, hj, rfl, HBE9⟩ := hrel
                by_cases hlt2 : j < S
                · have hj1 : (j : Int) < (S : Int) := by omega
                  have hj0 : (0 : Int) ≤ (j : Int) := by omega
                  obtain ⟨b8, o8, e8, hb8, hc8⟩ := (HR8.out.below HBE9.out) (by omega)
                  have g8 := hc8 j hlt2
                  dsimp only at g8
                  obtain ⟨b1, o1, e1, hb1, hc1⟩ := (HR1.out.below (HB8.out.trans (HBE9.out.mono HB8.out.size))) (by have := HL.out; have := HT.out; omega)
                  subst e8 e1
                  obtain ⟨y, hy⟩ : ∃ y, y = j / 8 := ⟨_, rfl⟩
                  obtain ⟨r, hr⟩ : ∃ r, r = j % 8 := ⟨_, rfl⟩
                  obtain ⟨s, hs⟩ : ∃ s, s = 7 - r := ⟨_, rfl⟩
                  have hyn : y < n := by have := HL.out; have := HT.out; omega
                  have hyn1 : (y : Int) < (n : Int) := by omega
                  have hy0 : (0 : Int) ≤ (y : Int) := by omega
                  have g1 := hc1 y hyn
                  dsimp only at g1
                  clear hc8 hc1
                  have ey : (j : Int) / 8 = (y : Int) := by omega
                  have ey2 : (j : Int).tdiv 8 = (y : Int) := by rw [Int.tdiv_eq_ediv_of_nonneg (by omega)]; omega
                  have hwy : IntKind.i64.wrap (y : Int) = (y : Int) := by rw [IntKind.wrap_i64]; omega
                  have er : (j : Int) % 8 = (r : Int) := by omega
                  have er2 : (j : Int).tmod 8 = (r : Int) := by rw [Int.tmod_eq_emod_of_nonneg (by omega)]; omega
                  have es : (7 : Int) - (r : Int) = (s : Int) := by omega
                  have hws : IntKind.i64.wrap (7 - (r : Int)) = (s : Int) := by rw [IntKind.wrap_i64]; omega
                  have hs7 : s ≤ 7 := by omega
                  have hb256 := HB256.out y
                  obtain ⟨b, hb⟩ : ∃ b, b = nth B y := ⟨_, rfl⟩
                  rw [← hb] at g1 hb256
                  obtain ⟨u, hu⟩ : ∃ u, u = b / 2 ^ s := ⟨_, rfl⟩
                  have hul : u < 256 := by rw [hu]; exact Nat.lt_of_le_of_lt (Nat.div_le_self _ _) hb256
                  have hui : (b : Int) / 2 ^ s = (u : Int) := by rw [hu]; simp
                  have hand := and1_u8 u hul
                  have hbit : bitAt B j = u % 2 := by unfold bitAt; rw [← hy, ← hb, ← hr, ← hs, ← hu]
                  have hz : zz B S j = decide (u % 2 = 1) := by unfold zz; rw [hbit]; simp [hlt2]
                  rw [hz] at g8
                  obtain ⟨t2, ht2⟩ : ∃ t2, t2 = u % 2 := ⟨_, rfl⟩
                  rw [← ht2] at hand g8
                  have ht22 : t2 = 0 ∨ t2 = 1 := by omega
                  clear hz hbit hu hb hs hr hy ht2
                  rcases ht22 with rfl | rfl
                  · have g9 : wr.cell? ⟨b8, o8 + j, none⟩ = some (.bool false) := g8
                    have hand' : bits .and .u8 (u : Int) 1 = 0 := hand
                    clear g8 hand
                    go_wp2_with fail
                    go_quiet (fail)
                    go_wp2_with fail
                    go_roundw
                    case rel => exact ⟨j + 1, by omega, by go_num, Lib.hid (below_drewN HBE9.out _)⟩
                    case measure => simp [intOf]; omega
                  · have g9 : wr.cell? ⟨b8, o8 + j, none⟩ = some (.bool true) := g8
                    have hand' : bits .and .u8 (u : Int) 1 = 1 := hand
                    clear g8 hand
                    go_wp2_with fail
                    go_quiet (fail)
                    go_wp2_with fail
                    go_roundw
                    case rel => exact ⟨j + 1, by omega, by go_num, Lib.hid (below_drewN HBE9.out _)⟩
                    case measure => simp [intOf]; omega
                · obtain rfl : j = S := by omega
                  go_wp2_with fail
                  go_ret
                  exact ⟨rfl, HB8.out.trans (HBE9.out.mono HB8.out.size)⟩
end Go.Proofs.Ytcfcbcjaiplllaa
