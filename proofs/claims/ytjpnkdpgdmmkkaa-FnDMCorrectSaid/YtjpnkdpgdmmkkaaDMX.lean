/-
  Data Matrix: the reference's error correction of a block, walked. No condition beyond the bounds that the theorem states.
-/
import Derived.Test.YtjpnkdpgdmmkkaaDMW
import Derived.Outline
import Derived.Deep.Cut
import Derived.StillTactics
namespace Go.Proofs.Ytjpnkdpgdmmkkaa
open Go.RowKit Go.Qz Go.Qz.RS Go.Qz.DM
set_option linter.unusedVariables false

/-- Numbers as ints. -/
def ints (l : List Nat) : List Value := l.map fun x : Nat => Value.int .i64 x
/-- Numbers as bytes. -/
def u8s (l : List Nat) : List Value := l.map fun x : Nat => Value.int .u8 x
theorem u8s_at {l : List Nat} {j : Nat} (h : j < l.length) : (u8s l)[j]? = some (.int .u8 (nth l j : Nat)) := by
  unfold u8s; rw [List.getElem?_map, List.getElem?_eq_getElem h, nth_eq h]; rfl
theorem ints_atD {l : List Nat} {j : Nat} (h : j < l.length) : (ints l)[j]? = some (.int .i64 (nth l j : Nat)) := by
  unfold ints; rw [List.getElem?_map, List.getElem?_eq_getElem h, nth_eq h]; rfl
theorem ints_rowF {N : Nat} {f : Nat → Nat} {j : Nat} (h : j < N) : (ints (rowF N f))[j]? = some (.int .i64 (f j : Nat)) := by
  rw [ints_atD (by rw [rowF_length]; exact h), rowF_nth h]
theorem u8s_rowF {N : Nat} {f : Nat → Nat} {j : Nat} (h : j < N) : (u8s (rowF N f))[j]? = some (.int .u8 (f j : Nat)) := by
  rw [u8s_at (by rw [rowF_length]; exact h), rowF_nth h]
theorem ints_setF {N : Nat} {f g : Nat → Nat} {i v : Nat} (hi : i < N) (hv : g i = v) (h : ∀ j, j < N → j ≠ i → f j = g j) : (ints (rowF N f)).set i (.int .i64 (v : Nat)) = ints (rowF N g) := by
  rw [← rowF_set hi hv h]; unfold ints; rw [List.map_set]
theorem u8s_setF {N : Nat} {f g : Nat → Nat} {i v : Nat} (hi : i < N) (hv : g i = v) (h : ∀ j, j < N → j ≠ i → f j = g j) : (u8s (rowF N f)).set i (.int .u8 (v : Nat)) = u8s (rowF N g) := by
  rw [← rowF_set hi hv h]; unfold u8s; rw [List.map_set]
theorem ints_zeros (N : Nat) : ints (rowF N (fun _ => 0)) = List.replicate N (.int .i64 0) := by rw [rowF_zero]; simp [ints]
theorem u8s_zeros (N : Nat) : u8s (rowF N (fun _ => 0)) = List.replicate N (.int .u8 0) := by rw [rowF_zero]; simp [u8s]
def CheckPost (n : Nat) (data : List Nat) (w : World) (e : Ending) (w' : World) : Prop :=
  ∃ B, e = .returned (.slice (some ⟨B, 0, none⟩) n n) ∧ Arr w' 5 B (u8s (lfs n (gd n) data)) ∧ w.heap.size ≤ B ∧ Below w.heap.size w w'

set_option maxRecDepth 100000 in
set_option maxHeartbeats 12800000 in
theorem dmCheck (data : List Nat) (n : Nat) (hd : ∀ j, nth data j < 256) (hn : n ≤ 100) (L : Nat) (hL : L = data.length) (hl : L ≤ 3000) (A : Option Addr) (c : Nat) (w : World) (h : Rd w A L (fun j => .int .u8 (nth data j : Nat))) :
    Calls Try.prog 12 #[.slice A L c, .int .i64 n] w (CheckPost n data w) := by
  have HR := Lib.hid h
  have HD := Lib.hid hd
  have HL := Lib.hid hL
  obtain ⟨E, hE⟩ : ∃ E, E = w.heap.size := ⟨_, rfl⟩
  clear h hd hL
  go_enter Try.func12, Try.ntmps12
  go_wp2_with fail
  have hI := Arr.new w 3 [.int .i64 1]
  have hb0 : Below w.heap.size w (w.alloc (.cells #[.int .i64 1] 3)) := (Below.refl _ _).alloc (Nat.le_refl _) _
  obtain ⟨W0, hW0⟩ : ∃ W0, W0 = w.alloc (.cells #[.int .i64 1] 3) := ⟨_, rfl⟩
  have hI2 : Arr W0 3 w.heap.size (ints (gd 0)) := by rw [hW0]; exact hI
  rw [← hW0] at hb0 ⊢
  rw [← hE] at hI2 hb0 ⊢
  have HI := Lib.hid hI2
  have HB0 := Lib.hid hb0
  have HE := Lib.hid hE
  clear hI hb0 hI2 hW0 hE
  go_loopw [5, 6, 21] (fun g x i wr => ∃ k G : Nat, k ≤ n ∧ g = .slice (some ⟨G, 0, none⟩) (k + 1) (k + 1) ∧ x = .int .i64 (ex D k : Nat) ∧ i = .int .i64 k ∧ E ≤ G ∧ Hid (Arr wr 3 G (ints (gd k))) ∧ Hid (Below E w wr)) (fun _ _ i _ => n - (intOf i).toNat)
  case atStart => exact ⟨0, E, Nat.zero_le _, rfl, rfl, rfl, Nat.le_refl _, HI, HB0⟩
  case round =>
    obtain ⟨k, G, hk, rfl, rfl, rfl, hGE, HG, HB⟩ := hrel
    clear HI HB0
    obtain ⟨wi, hwi⟩ : ∃ wi, wi = wr := ⟨_, rfl⟩
    rw [← hwi] at HG HB ⊢
    clear hwi
    by_cases hlt : k < n
    · have hki : (k : Int) < (n : Int) := by omega
      have hxl : ex D k < 256 := ex_lt D (by decide) k
      have HT := dmTimes (ex D k) 2 hxl (by omega) wi
      rw [mul_two six2 (show ex D k < D.size from hxl), show RS.step D (ex D k) = ex D (k + 1) from rfl] at HT
      have HT := Lib.hid HT
      have hel : ex D (k + 1) < 256 := ex_lt D (by decide) (k + 1)
      obtain ⟨x, hx⟩ : ∃ x, x = ex D k := ⟨_, rfl⟩
      obtain ⟨e, he⟩ : ∃ e, e = ex D (k + 1) := ⟨_, rfl⟩
      rw [← hx, ← he] at HT
      rw [← he] at hel
      rw [← hx]
      have HXE := Lib.hid he
      obtain ⟨k1, hk1⟩ : ∃ k1, k1 = k + 1 := ⟨_, rfl⟩
      rw [← hk1]
      have hk1b : k1 ≤ 100 := by omega
      obtain ⟨k2, hk2⟩ : ∃ k2, k2 = k1 + 1 := ⟨_, rfl⟩
      have hk2i : (k1 : Int) + 1 = (k2 : Int) := by omega
      have hmk := fun W => run_make1 (P := Try.prog) 57 3 (.int .i64 0) 8 Try.underlying57 Try.infoIntD rfl (by decide) k2 (by omega) .i64 .i64 (k2 : Int) rfl W
      have HK := Lib.hid (And.intro hk1 hk2)
      clear hx he hxl
      clear hk1 hk2
      go_wp2_with fail
      refine HT.out.mono ?_
      rintro e9 w1 ⟨rfl, rfl⟩
      go_wp2_with fail
      have hN := Arr.new wi 3 (List.replicate k2 (.int .i64 0))
      have hbN : Below wi.heap.size wi (wi.alloc (.cells (zeros k2 (.int .i64 0)) 3)) := (Below.refl _ _).alloc (Nat.le_refl _) _
      obtain ⟨W1, hW1⟩ : ∃ W1, W1 = wi.alloc (.cells (zeros k2 (.int .i64 0)) 3) := ⟨_, rfl⟩
      have hN2 : Arr W1 3 wi.heap.size (List.replicate k2 (.int .i64 0)) := by rw [hW1]; exact hN
      rw [← hW1] at hbN ⊢
      have HGG : Hid (Arr W1 3 G (ints (gd k))) := Lib.hid (HG.out.below hbN HG.out.lt)
      have hGl := HG.out.lt
      obtain ⟨NB, hNB⟩ : ∃ NB, NB = wi.heap.size := ⟨_, rfl⟩
      rw [← hNB] at hN2 hbN ⊢
      have hne : G ≠ NB := by omega
      have HNBE : Hid (E ≤ NB) := Lib.hid (by omega)
      have HB1 : Hid (Below E w W1) := Lib.hid (HB.out.trans (hbN.mono (by omega)))
      have HN2 : Hid (Arr W1 3 NB (ints (rowF k2 (nk (gd k) e 0)))) := Lib.hid (by
        rw [rowF_congr (g := fun _ => 0) (fun j _ => nk_zero _ _ _), ints_zeros]; exact hN2)
      have HGN : Hid (∀ i, i < k1 → (ints (gd k))[i]? = some (.int .i64 (nth (gd k) i : Nat))) := Lib.hid (fun i hi => ints_atD (by rw [gd_length, ← HK.out.1]; exact hi))
      clear hN hbN hW1 hN2 hNB hGl HG HB HT
      go_loopw [31] (fun i wr => ∃ q : Nat, q ≤ k1 ∧ i = .int .i64 q ∧ Hid (Arr wr 3 NB (ints (rowF k2 (nk (gd k) e q)))) ∧ Hid (Mod (· = NB) W1 wr)) (fun i _ => k1 - (intOf i).toNat)
      case atStart => exact ⟨0, Nat.zero_le _, rfl, HN2, Lib.hid (Mod.refl _)⟩
      case round =>
        obtain ⟨q, hq, rfl, HN, HM⟩ := hrel
        clear HN2
        obtain ⟨wj, hwj⟩ : ∃ wj, wj = wr := ⟨_, rfl⟩
        rw [← hwj] at HN HM ⊢
        clear hwj
        by_cases hlt2 : q < k1
        · have hqi : (q : Int) < (k1 : Int) := by omega
          have hq0 : (0 : Int) ≤ (q : Int) := by omega
          have hq2 : (q : Int) < (k2 : Int) := by omega
          obtain ⟨q1, hq1⟩ : ∃ q1, q1 = q + 1 := ⟨_, rfl⟩
          have hq1i : (q : Int) + 1 = (q1 : Int) := by omega
          have hq12 : (q1 : Int) < (k2 : Int) := by omega
          have hq10 : (0 : Int) ≤ (q1 : Int) := by omega
          have cg := (HGG.out.mod HM.out (fun h => hne h)).cell? q
          rw [HGN.out q hlt2] at cg
          have hgl := gd_lt k q
          obtain ⟨gq, hgq⟩ : ∃ gq, gq = nth (gd k) q := ⟨_, rfl⟩
          rw [← hgq] at cg hgl
          have cn := HN.out.cell? q
          rw [ints_rowF (by omega)] at cn
          have hol : nk (gd k) e q q < 256 := by
            unfold nk
            refine xor_256 (by split <;> first | exact gd_lt k _ | omega) ?_
            split
            · exact mul_256 (gd_lt k _) _
            · omega
          obtain ⟨o, ho⟩ : ∃ o, o = nk (gd k) e q q := ⟨_, rfl⟩
          rw [← ho] at cn hol
          have hf := HN.out.free q
          have hxor := i64_xor o gq (by omega) (by omega)
          have hvl : o ^^^ gq < 256 := xor_256 hol hgl
          obtain ⟨v, hv⟩ : ∃ v, v = o ^^^ gq := ⟨_, rfl⟩
          rw [← hv] at hxor hvl
          have hN3 : Arr (wj.setCell ⟨NB, q, none⟩ (.int .i64 v)) 3 NB (ints (rowF k2 (nh (gd k) e q))) := by
            rw [← ints_setF (f := nk (gd k) e q) (g := nh (gd k) e q) (i := q) (v := v) (by omega) (by unfold nh; rw [if_pos rfl, ← ho, ← hgq, hv]) (fun j _ hj => by unfold nh; rw [if_neg hj])]
            exact HN.out.set_ q _
          obtain ⟨wk, hwk⟩ : ∃ wk, wk = wj.setCell ⟨NB, q, none⟩ (.int .i64 v) := ⟨_, rfl⟩
          have hM3 : Mod (· = NB) W1 wk := by rw [hwk]; exact HM.out.setCell (p := ⟨NB, q, none⟩) (.inl rfl) _
          rw [← hwk] at hN3
          have cn1 := hN3.cell? q1
          rw [ints_rowF (by omega), hq1, (nk_step (gd k) e q).1, ← hq1] at cn1
          have hf1 := hN3.free q1
          have HM3 := Lib.hid hM3
          have HN3 := Lib.hid hN3
          have HT := Lib.hid ((dmTimes gq e hgl hel wk.drew).mono (R' := fun e9 w' => e9 = .returned (.int .i64 (mul D gq e : Nat)) ∧ w' = wk.drew) (fun _ _ h => ⟨h.1, h.2.symm⟩))
          have hml : mul D gq e < 256 := mul_256 hgl e
          obtain ⟨m, hm⟩ : ∃ m, m = mul D gq e := ⟨_, rfl⟩
          rw [← hm] at HT hml
          have hx0 : bits .xor .i64 (0 : Int) (m : Int) = (m : Int) := by
            have := i64_xor 0 m (by omega) (by omega)
            rw [Nat.zero_xor] at this
            exact this
          have HN4 : Hid (Arr (wk.drew.setCell ⟨NB, q1, none⟩ (.int .i64 m)) 3 NB (ints (rowF k2 (nk (gd k) e q1)))) := Lib.hid (by
            rw [← ints_setF (f := nh (gd k) e q) (g := nk (gd k) e q1) (i := q1) (v := m) (by omega) (by rw [hq1, (nk_step (gd k) e q).2, ← hgq, hm]) (fun j _ hj => by rw [hq1]; exact nh_next _ _ _ _ (by omega))]
            exact Arr.set_ (w := wk.drew) HN3.out q1 _)
          have HM4 : Hid (Mod (· = NB) W1 (wk.drew.setCell ⟨NB, q1, none⟩ (.int .i64 m))) := Lib.hid (HM3.out.drew.setCell (p := ⟨NB, q1, none⟩) (.inl rfl) _)
          have HQ := Lib.hid hq1
          have HWK := Lib.hid hwk
          clear hgq ho hv hm hwk hN3 hM3 hq1 HN HM
          go_upto_region 11 with (fail)
          rw [← HWK.out]
          have hw1 : IntKind.i64.wrap (q1 : Int) = (q1 : Int) := by rw [IntKind.wrap_i64]; omega
          have hq13 : q1 < k2 := by omega
          go_still_tail 10, (by kernel_rfl)
          repeat still_step
          still_call (HT.out)
          repeat still_step
          try refine wpStill_nil ?_
          change wpList _ _ _ _ _ wk.drew
          have cn2 : wk.drew.cell? ⟨NB, q1, none⟩ = some (.int .i64 (0 : Nat)) := cn1
          have hf2 : wk.drew.frozen? ⟨NB, q1, none⟩ = false := hf1
          obtain ⟨W2, hW2⟩ : ∃ W2, W2 = wk.drew := ⟨_, rfl⟩
          rw [← hW2] at cn2 hf2 HN4 HM4 ⊢
          clear cn1 hf1 hW2 HT HN3 HM3 cg cn hf HWK
          go_wp2_with fail
          go_roundw
          case rel => exact ⟨q1, by omega, by go_num, HN4, HM4⟩
          case measure => simp [intOf]; omega
        · obtain rfl : q = k1 := by omega
          have hqi : ((q : Int) < (q : Int)) = False := by simp
          have HN5 : Hid (Arr wj 3 NB (ints (gd (k + 1)))) := Lib.hid (by
            have h5 := HN.out
            have h6 := HK.out
            have h7 : rowF k2 (nk (gd k) e q) = gd (k + 1) := by
              rw [h6.2, show q = (gd k).length by rw [gd_length]; exact h6.1, nk_all, HXE.out]; rfl
            rw [h7] at h5
            exact h5)
          have HB5 : Hid (Below E w wj) := Lib.hid (HB1.out.trans (HM.out.below (by rw [HE.out]; exact HB1.out.size) (fun j hj => by rw [hj]; exact HNBE.out)))
          clear HN HM
          go_wp2_with fail
          go_roundw
          case rel => exact ⟨k + 1, NB, by omega, by rw [← HK.out.1, ← HK.out.2], by rw [HXE.out], by go_num, HNBE.out, HN5, HB5⟩
          case measure => simp [intOf]; omega
    · obtain rfl : k = n := by omega
      have hki : ((k : Int) < (k : Int)) = False := by simp
      obtain ⟨N, hN⟩ : ∃ N, N = L + k := ⟨_, rfl⟩
      have hNi : (L : Int) + (k : Int) = (N : Int) := by omega
      have hNb : N ≤ 4000 := by omega
      have hLN : L ≤ N := by omega
      have HNE := Lib.hid hN
      obtain ⟨x, hx⟩ : ∃ x, x = ex D k := ⟨_, rfl⟩
      rw [← hx]
      obtain ⟨k1, hk1⟩ : ∃ k1, k1 = k + 1 := ⟨_, rfl⟩
      rw [← hk1]
      have HK1 := Lib.hid hk1
      have hk1b : k1 ≤ 101 := by omega
      have hmk := fun W => run_make1 (P := Try.prog) 57 3 (.int .i64 0) 8 Try.underlying57 Try.infoIntD rfl (by decide) N (by omega) .i64 .i64 (N : Int) rfl W
      clear hx hN hk1
      go_wp2_with fail
      have hN := Arr.new wi 3 (List.replicate N (.int .i64 0))
      have hbN : Below wi.heap.size wi (wi.alloc (.cells (zeros N (.int .i64 0)) 3)) := (Below.refl _ _).alloc (Nat.le_refl _) _
      obtain ⟨W1, hW1⟩ : ∃ W1, W1 = wi.alloc (.cells (zeros N (.int .i64 0)) 3) := ⟨_, rfl⟩
      have hN2 : Arr W1 3 wi.heap.size (List.replicate N (.int .i64 0)) := by rw [hW1]; exact hN
      rw [← hW1] at hbN ⊢
      have HGG : Hid (Arr W1 3 G (ints (gd k))) := Lib.hid (HG.out.below hbN HG.out.lt)
      have hGl := HG.out.lt
      obtain ⟨NB, hNB⟩ : ∃ NB, NB = wi.heap.size := ⟨_, rfl⟩
      rw [← hNB] at hN2 hbN ⊢
      have hne : G ≠ NB := by omega
      have HNBE : Hid (E ≤ NB) := Lib.hid (by omega)
      have HB1 : Hid (Below E w W1) := Lib.hid (HB.out.trans (hbN.mono (by omega)))
      have HN2 : Hid (Arr W1 3 NB (ints (rowF N (fun j => if j < 0 then nth data j else 0)))) := Lib.hid (by
        rw [rowF_congr (g := fun _ => 0) (fun j _ => by simp), ints_zeros]; exact hN2)
      have HGN : Hid (∀ i, i < k1 → (ints (gd k))[i]? = some (.int .i64 (nth (gd k) i : Nat))) := Lib.hid (fun i hi => ints_atD (by rw [gd_length, ← HK1.out]; exact hi))
      clear hN hbN hW1 hN2 hNB hGl HG HB hmk
      go_loopw [63] (fun i wr => ∃ q : Nat, q ≤ L ∧ i = .int .i64 q ∧ Hid (Arr wr 3 NB (ints (rowF N (fun j => if j < q then nth data j else 0)))) ∧ Hid (Mod (· = NB) W1 wr)) (fun i _ => L - (intOf i).toNat)
      case atStart => exact ⟨0, Nat.zero_le _, rfl, HN2, Lib.hid (Mod.refl _)⟩
      case round =>
        obtain ⟨q, hq, rfl, HN, HM⟩ := hrel
        clear HN2
        obtain ⟨wj, hwj⟩ : ∃ wj, wj = wr := ⟨_, rfl⟩
        rw [← hwj] at HN HM ⊢
        clear hwj
        by_cases hlt2 : q < L
        · have hqi : (q : Int) < (L : Int) := by omega
          have hq0 : (0 : Int) ≤ (q : Int) := by omega
          have hq2 : (q : Int) < (N : Int) := by omega
          have hbj : Below w.heap.size w wj := by
            rw [← HE.out]
            exact HB1.out.trans (HM.out.below (by rw [HE.out]; exact HB1.out.size) (fun j hj => by rw [hj]; exact HNBE.out))
          obtain ⟨bb, bo, rfl, hbb, hbc⟩ := (HR.out.below hbj) (by omega)
          have cd := hbc q hlt2
          dsimp only at cd
          have hdl := HD.out q
          obtain ⟨x, hx⟩ : ∃ x, x = nth data q := ⟨_, rfl⟩
          rw [← hx] at cd hdl
          have cn := HN.out.cell? q
          rw [ints_rowF (by omega), if_neg (by omega)] at cn
          have hf := HN.out.free q
          have HN3 : Hid (Arr (wj.setCell ⟨NB, q, none⟩ (.int .i64 x)) 3 NB (ints (rowF N (fun j => if j < q + 1 then nth data j else 0)))) := Lib.hid (by
            rw [← ints_setF (f := fun j => if j < q then nth data j else 0) (g := fun j => if j < q + 1 then nth data j else 0) (i := q) (v := x) (by omega) (by rw [if_pos (by omega), hx]) (fun j _ hj => by
              by_cases h9 : j < q
              · rw [if_pos h9, if_pos (by omega)]
              · rw [if_neg h9, if_neg (by omega)])]
            exact HN.out.set_ q _)
          have HM3 : Hid (Mod (· = NB) W1 (wj.setCell ⟨NB, q, none⟩ (.int .i64 x))) := Lib.hid (HM.out.setCell (p := ⟨NB, q, none⟩) (.inl rfl) _)
          clear hx hbj hbb hbc HN HM
          go_wp2_with fail
          go_roundw
          case rel => exact ⟨q + 1, by omega, by go_num, HN3, HM3⟩
          case measure => simp [intOf]; omega
        · obtain rfl : q = L := by omega
          have hqi : ((q : Int) < (q : Int)) = False := by simp
          have HN5 : Hid (Arr wj 3 NB (ints (rowF N (rs k data 0)))) := Lib.hid (by
            rw [rowF_congr (g := fun j => if j < q then nth data j else 0) (fun j _ => by
              rw [rs_zero]
              by_cases h9 : j < q
              · rw [if_pos h9]
              · rw [if_neg h9, nth_past (by rw [← HL.out]; omega)])]
            exact HN.out)
          have HM5 := HM
          clear HN HM
          go_wp2_with fail
          go_loopw [76] (fun i wr => ∃ t : Nat, t ≤ q ∧ i = .int .i64 t ∧ Hid (Arr wr 3 NB (ints (rowF N (rs k data t)))) ∧ Hid (Mod (· = NB) W1 wr)) (fun i _ => q - (intOf i).toNat)
          case atStart => exact ⟨0, Nat.zero_le _, rfl, HN5, HM5⟩
          case round =>
            obtain ⟨t, ht, rfl, HN, HM⟩ := hrel
            clear HN5 HM5
            obtain ⟨wl, hwl⟩ : ∃ wl, wl = wr := ⟨_, rfl⟩
            rw [← hwl] at HN HM ⊢
            clear hwl
            by_cases hlt3 : t < q
            · have hti : (t : Int) < (q : Int) := by omega
              have ht0 : (0 : Int) ≤ (t : Int) := by omega
              have htN : (t : Int) < (N : Int) := by omega
              have cl := HN.out.cell? t
              rw [ints_rowF (by omega)] at cl
              have hll := rs_lt HD.out (n := k) t t
              obtain ⟨ld, hld⟩ : ∃ ld, ld = rs k data t t := ⟨_, rfl⟩
              rw [← hld] at cl hll
              have HLD := Lib.hid hld
              have HN6 : Hid (Arr wl 3 NB (ints (rowF N (rk k data t 0)))) := Lib.hid (by
                rw [rowF_congr (g := rs k data t) (fun j _ => rk_zero _ _ _ _)]; exact HN.out)
              have HM6 := HM
              clear hld HN HM
              go_wp2_with fail
              go_loopw [85] (fun i wr => ∃ u : Nat, u ≤ k1 ∧ i = .int .i64 u ∧ Hid (Arr wr 3 NB (ints (rowF N (rk k data t u)))) ∧ Hid (Mod (· = NB) W1 wr)) (fun i _ => k1 - (intOf i).toNat)
              case atStart => exact ⟨0, Nat.zero_le _, rfl, HN6, HM6⟩
              case round =>
                obtain ⟨u, hu, rfl, HN, HM⟩ := hrel
                clear HN6 HM6
                obtain ⟨wm, hwm⟩ : ∃ wm, wm = wr := ⟨_, rfl⟩
                rw [← hwm] at HN HM ⊢
                clear hwm
                by_cases hlt4 : u < k1
                · have hui : (u : Int) < (k1 : Int) := by omega
                  have hu0 : (0 : Int) ≤ (u : Int) := by omega
                  obtain ⟨tu, htu⟩ : ∃ tu, tu = t + u := ⟨_, rfl⟩
                  have htui : (t : Int) + (u : Int) = (tu : Int) := by omega
                  have htuN : tu < N := by have := HK1.out; have := HNE.out; omega
                  have htuN2 : (tu : Int) < (N : Int) := by omega
                  have htu0 : (0 : Int) ≤ (tu : Int) := by omega
                  have cg := (HGG.out.mod HM.out (fun h => hne h)).cell? u
                  rw [HGN.out u hlt4] at cg
                  have hgl := gd_lt k u
                  obtain ⟨gq, hgq⟩ : ∃ gq, gq = nth (gd k) u := ⟨_, rfl⟩
                  rw [← hgq] at cg hgl
                  have cn := HN.out.cell? tu
                  rw [ints_rowF htuN, htu, (rk_at k data t u).1, ← htu] at cn
                  have hol := rs_lt HD.out (n := k) t tu
                  obtain ⟨o, ho⟩ : ∃ o, o = rs k data t tu := ⟨_, rfl⟩
                  rw [← ho] at cn hol
                  have hf := HN.out.free tu
                  have HT := Lib.hid ((dmTimes ld gq hll hgl wm.drew).mono (R' := fun e9 w' => e9 = .returned (.int .i64 (mul D ld gq : Nat)) ∧ w' = wm.drew) (fun _ _ h => ⟨h.1, h.2.symm⟩))
                  have hml : mul D ld gq < 256 := mul_256 hll gq
                  obtain ⟨m, hm⟩ : ∃ m, m = mul D ld gq := ⟨_, rfl⟩
                  rw [← hm] at HT hml
                  have hxor := i64_xor o m (by omega) (by omega)
                  obtain ⟨v, hv⟩ : ∃ v, v = o ^^^ m := ⟨_, rfl⟩
                  rw [← hv] at hxor
                  have HN7 : Hid (Arr (wm.drew.setCell ⟨NB, tu, none⟩ (.int .i64 v)) 3 NB (ints (rowF N (rk k data t (u + 1))))) := Lib.hid (by
                    rw [← ints_setF (f := rk k data t u) (g := rk k data t (u + 1)) (i := tu) (v := v) htuN (by rw [htu, (rk_at k data t u).2, ← htu, ← ho, ← HLD.out, ← hgq, ← hm, hv]) (fun j _ hj => rk_next _ _ _ _ _ (by omega))]
                    exact Arr.set_ (w := wm.drew) HN.out tu _)
                  have HM7 : Hid (Mod (· = NB) W1 (wm.drew.setCell ⟨NB, tu, none⟩ (.int .i64 v))) := Lib.hid (HM.out.drew.setCell (p := ⟨NB, tu, none⟩) (.inl rfl) _)
                  have hw1 : IntKind.i64.wrap (tu : Int) = (tu : Int) := by rw [IntKind.wrap_i64]; omega
                  have HTU := Lib.hid htu
                  clear hgq ho hm hv htu HN HM
                  go_upto_region 28 with (fail)
                  go_still_tail 11, (by kernel_rfl)
                  repeat still_step
                  still_call (HT.out)
                  repeat still_step
                  try refine wpStill_nil ?_
                  change wpList _ _ _ _ _ wm.drew
                  have cn2 : wm.drew.cell? ⟨NB, tu, none⟩ = some (.int .i64 (o : Nat)) := cn
                  have hf2 : wm.drew.frozen? ⟨NB, tu, none⟩ = false := hf
                  obtain ⟨W2, hW2⟩ : ∃ W2, W2 = wm.drew := ⟨_, rfl⟩
                  rw [← hW2] at cn2 hf2 HN7 HM7 ⊢
                  clear hW2 HT cg cn hf
                  go_wp2_with fail
                  go_roundw
                  case rel => exact ⟨u + 1, by omega, by go_num, HN7, HM7⟩
                  case measure => simp [intOf]; omega
                · obtain rfl : u = k1 := by omega
                  have hui : ((u : Int) < (u : Int)) = False := by simp
                  have HN8 : Hid (Arr wm 3 NB (ints (rowF N (rs k data (t + 1))))) := Lib.hid (by
                    rw [rowF_congr (g := rk k data t u) (fun j _ => by rw [HK1.out, rk_all HD.out (by rw [← HL.out]; exact hlt3)])]
                    exact HN.out)
                  go_wp2_with fail
                  go_roundw
                  case rel => exact ⟨t + 1, by omega, by go_num, HN8, HM⟩
                  case measure => simp [intOf]; omega
            · obtain rfl : t = q := by omega
              have hti : ((t : Int) < (t : Int)) = False := by simp
              have hmk := fun W => run_make1 (P := Try.prog) 22 5 (.int .u8 0) 1 Try.underlying22 Try.infoU8D rfl (by decide) k (by omega) .i64 .i64 (k : Int) rfl W
              go_wp2_with fail
              have hO := Arr.new wl 5 (List.replicate k (.int .u8 0))
              have hbO : Below wl.heap.size wl (wl.alloc (.cells (zeros k (.int .u8 0)) 5)) := (Below.refl _ _).alloc (Nat.le_refl _) _
              obtain ⟨W3, hW3⟩ : ∃ W3, W3 = wl.alloc (.cells (zeros k (.int .u8 0)) 5) := ⟨_, rfl⟩
              have hO2 : Arr W3 5 wl.heap.size (List.replicate k (.int .u8 0)) := by rw [hW3]; exact hO
              rw [← hW3] at hbO ⊢
              have HNN : Hid (Arr W3 3 NB (ints (rowF N (rs k data t)))) := Lib.hid (HN.out.below hbO HN.out.lt)
              have hNl := HN.out.lt
              have HBL : Hid (Below E w wl) := Lib.hid (HB1.out.trans (HM.out.below (by rw [HE.out]; exact HB1.out.size) (fun j hj => by rw [hj]; exact HNBE.out)))
              obtain ⟨OB, hOB⟩ : ∃ OB, OB = wl.heap.size := ⟨_, rfl⟩
              rw [← hOB] at hO2 hbO ⊢
              have hne2 : NB ≠ OB := by omega
              have HOBE : Hid (E ≤ OB) := Lib.hid (by have := HNBE.out; omega)
              have HB3 : Hid (Below E w W3) := Lib.hid (HBL.out.trans (hbO.mono (by have := HNBE.out; omega)))
              have HSB : Hid (∀ j, nth (lfs k (gd k) data) j < 256) := Lib.hid (fun j => lfs_lt HD.out j)
              obtain ⟨S, hS⟩ : ∃ S, S = lfs k (gd k) data := ⟨_, rfl⟩
              have hSl : S.length = k := by rw [hS, lfs_length]
              rw [← hS] at HSB
              have HO2 : Hid (Arr W3 5 OB (u8s (rowF k (fun j => if j < 0 then nth S j else 0)))) := Lib.hid (by
                rw [rowF_congr (g := fun _ => 0) (fun j _ => by simp), u8s_zeros]; exact hO2)
              have HRE : Hid (∀ j, j < k → rs k data t (t + j) = nth S j) := Lib.hid (fun j _ => by
                have h9 := rs_end k data j
                rw [← HL.out, ← hS] at h9
                exact h9)
              have HSE := Lib.hid (And.intro hS hSl)
              clear hO hbO hW3 hO2 hOB hNl HN HM hmk hS hSl
              go_loopw [107] (fun i wr => ∃ u : Nat, u ≤ k ∧ i = .int .i64 u ∧ Hid (Arr wr 5 OB (u8s (rowF k (fun j => if j < u then nth S j else 0)))) ∧ Hid (Mod (· = OB) W3 wr)) (fun i _ => k - (intOf i).toNat)
              case atStart => exact ⟨0, Nat.zero_le _, rfl, HO2, Lib.hid (Mod.refl _)⟩
              case round =>
                obtain ⟨u, hu, rfl, HO, HM⟩ := hrel
                clear HO2
                obtain ⟨wm, hwm⟩ : ∃ wm, wm = wr := ⟨_, rfl⟩
                rw [← hwm] at HO HM ⊢
                clear hwm
                by_cases hlt4 : u < k
                · have hui : (u : Int) < (k : Int) := by omega
                  have hu0 : (0 : Int) ≤ (u : Int) := by omega
                  obtain ⟨tu, htu⟩ : ∃ tu, tu = t + u := ⟨_, rfl⟩
                  have htui : (t : Int) + (u : Int) = (tu : Int) := by omega
                  have htuN : tu < N := by have := HNE.out; omega
                  have htuN2 : (tu : Int) < (N : Int) := by omega
                  have htu0 : (0 : Int) ≤ (tu : Int) := by omega
                  have cn := (HNN.out.mod HM.out (fun h => hne2 h)).cell? tu
                  rw [ints_rowF htuN, htu, HRE.out u hlt4, ← htu] at cn
                  have hsl := HSB.out u
                  obtain ⟨sv, hsv⟩ : ∃ sv, sv = nth S u := ⟨_, rfl⟩
                  rw [← hsv] at cn hsl
                  have hw8 : IntKind.u8.wrap (sv : Int) = (sv : Int) := by rw [IntKind.wrap_u8]; omega
                  have co := HO.out.cell? u
                  rw [u8s_rowF hlt4, if_neg (by omega)] at co
                  have hf := HO.out.free u
                  have HO7 : Hid (Arr (wm.setCell ⟨OB, u, none⟩ (.int .u8 sv)) 5 OB (u8s (rowF k (fun j => if j < u + 1 then nth S j else 0)))) := Lib.hid (by
                    rw [← u8s_setF (f := fun j => if j < u then nth S j else 0) (g := fun j => if j < u + 1 then nth S j else 0) (i := u) (v := sv) hlt4 (by rw [if_pos (by omega), hsv]) (fun j _ hj => by
                      by_cases h9 : j < u
                      · rw [if_pos h9, if_pos (by omega)]
                      · rw [if_neg h9, if_neg (by omega)])]
                    exact HO.out.set_ u _)
                  have HM7 : Hid (Mod (· = OB) W3 (wm.setCell ⟨OB, u, none⟩ (.int .u8 sv))) := Lib.hid (HM.out.setCell (p := ⟨OB, u, none⟩) (.inl rfl) _)
                  clear hsv htu HO HM
                  go_wp2_with fail
                  go_roundw
                  case rel => exact ⟨u + 1, by omega, by go_num, HO7, HM7⟩
                  case measure => simp [intOf]; omega
                · obtain rfl : u = k := by omega
                  have hui : ((u : Int) < (u : Int)) = False := by simp
                  have HO8 : Hid (Arr wm 5 OB (u8s (lfs u (gd u) data))) := Lib.hid (by
                    rw [← HSE.out.1, ← rowF_list S, HSE.out.2, rowF_congr (g := fun j => if j < u then nth S j else 0) (fun j hj => by rw [if_pos hj])]
                    exact HO.out)
                  have HB8 : Hid (Below E w wm) := Lib.hid (HB3.out.trans (HM.out.below (by rw [HE.out]; exact HB3.out.size) (fun j hj => by rw [hj]; exact HOBE.out)))
                  clear HO HM
                  go_wp2_with fail
                  go_ret
                  exact ⟨OB, rfl, HO8.out, by rw [← HE.out]; exact HOBE.out, by rw [← HE.out]; exact HB8.out⟩
end Go.Proofs.Ytjpnkdpgdmmkkaa
