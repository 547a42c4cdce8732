/-
  spec.QRDataSizes, the law's small words (versions, levels, comparisons, words made of bytes), walked. No condition beyond the bounds that each theorem states.
-/
import Derived.Test.YtpeipolknphjhaaQBS
namespace Go.Proofs.Ytpeipolknphjhaa
open Go.RowKit Go.Qz Go.Qz.QW Go.Qz.QI
set_option linter.unusedVariables false

/-- The sizes so far. -/
def sizeTo (s : Sh) (k : Nat) : List Nat := (List.range s.nb).map fun j => if j < k then s.ds j else 0
theorem sizeTo_zero (s : Sh) : sizeTo s 0 = List.replicate s.nb 0 := by
  unfold sizeTo
  apply List.ext_getElem (by simp)
  intro j h1 h2
  simp
theorem sizeTo_len (s : Sh) (k : Nat) : (sizeTo s k).length = s.nb := by simp [sizeTo]
theorem sizeTo_set (s : Sh) (k : Nat) : (sizeTo s k).set k (s.ds k) = sizeTo s (k + 1) := by
  apply List.ext_getElem (by simp [sizeTo])
  intro j h1 h2
  simp only [sizeTo, List.getElem_set, List.getElem_map, List.getElem_range]
  by_cases e : k = j
  · subst e; simp
  · rw [if_neg e]
    by_cases h : j < k
    · simp [h, show j < k + 1 by omega]
    · simp [h, show ¬ j < k + 1 by omega]
theorem sizeTo_nth (s : Sh) (k j : Nat) (h : j < s.nb) : nth (sizeTo s k) j = if j < k then s.ds j else 0 := nth_map_range _ _ _ h
def SizesPost (s : Sh) (w : World) (e : Ending) (w' : World) : Prop := ∃ b, e = .returned (.slice (some ⟨b, 0, none⟩) s.nb s.nb) ∧ IA w' 3 b (sizeTo s s.nb) ∧ w.heap.size ≤ b ∧ Below w.heap.size w w'
theorem SizesPost.mk {s : Sh} {w w' : World} {b m : Nat} (hm : m = s.nb) (h : IA w' 3 b (sizeTo s m)) (hb : w.heap.size ≤ b) (hB : Below w.heap.size w w') : SizesPost s w (.returned (.slice (some ⟨b, 0, none⟩) m m)) w' := by
  subst hm
  exact ⟨b, rfl, h, hb, hB⟩
theorem rem_runQ (a b c : Int) (h0 : ¬ b = 0) (h : a.tmod b = c) (W : World) : (binOp .rem 3 (.int .i64 a) (.int .i64 b)).run Try.prog W = .ok (.int .i64 c) W := by
  subst h
  show ((Op.intDiv .rem .i64 a b).run Try.prog W) = _
  unfold Op.intDiv
  simp [h0, go_sem]

set_option maxRecDepth 100000 in
set_option maxHeartbeats 3200000 in
theorem dataSizes (n l : Nat) (h1 : 1 ≤ n) (h2 : n ≤ 40) (hl : l < 4) (w : World) :
    Calls Try.prog 25 #[.int .i64 n, .int .i64 l] w (SizesPost (shOf' n l) w) := by
  have HC := Lib.hid (correction n l h1 h2 hl w)
  have HT := Lib.hid (fun W => total n h1 h2 W)
  have hO := shOf_ok h1 h2 hl
  have hf := fine n l h1 h2 hl
  obtain ⟨s, hs⟩ : ∃ s, s = shOf' n l := ⟨_, rfl⟩
  obtain ⟨x, hx⟩ : ∃ x, x = ecOf n l := ⟨_, rfl⟩
  obtain ⟨y, hy⟩ : ∃ y, y = nbOf n l := ⟨_, rfl⟩
  obtain ⟨T, hT⟩ : ∃ T, T = totOf n := ⟨_, rfl⟩
  obtain ⟨q, hq⟩ : ∃ q, q = T / y := ⟨_, rfl⟩
  obtain ⟨r, hr⟩ : ∃ r, r = T % y := ⟨_, rfl⟩
  have hsx : s.ec = x := by rw [hs, hx]; rfl
  have hsy : s.nb = y := by rw [hs, hy]; rfl
  have hsh : s.sh = q - x := by rw [hs, hq, hx, hT, hy]; rfl
  have hsr : s.lg = r := by rw [hs, hr, hT, hy]; rfl
  rw [← hs] at hO ⊢
  unfold CorrPost at HC
  rw [← hx, ← hy] at HC
  rw [← hT] at HT
  have hy0 : 0 < y := by rw [← hsy]; exact hO.nb0
  have hy1 : y ≤ 81 := by rw [← hsy]; exact hO.nb1
  have hry : r < y := by rw [hr]; exact Nat.mod_lt _ hy0
  have hT1 : T ≤ 3706 := by rw [hT]; exact hf.tot1
  have hql : q ≤ T := by rw [hq]; exact Nat.div_le_self _ _
  have hx1 : x ≤ 30 := by rw [hx]; exact hf.ec1
  have hqx : x < q := by have := hf.sh0; have := hsh; have := hO.sh0; omega
  obtain ⟨sh, hshe⟩ : ∃ sh, sh = s.sh := ⟨_, rfl⟩
  obtain ⟨st, hste⟩ : ∃ st, st = s.st := ⟨_, rfl⟩
  have hst : st = y - r := by rw [hste]; unfold Sh.st; rw [hsy, hsr]
  have eq1 : (T : Int).tdiv (y : Int) = (q : Int) := by rw [Int.tdiv_eq_ediv_of_nonneg (by omega), hq]; simp
  have eq2 : (T : Int) / (y : Int) = (q : Int) := by rw [hq]; simp
  have er1 : (T : Int).tmod (y : Int) = (r : Int) := by rw [Int.tmod_eq_emod_of_nonneg (by omega), hr]; simp
  have er2 : (T : Int) % (y : Int) = (r : Int) := by rw [hr]; simp
  have hrem := fun W => rem_runQ (T : Int) (y : Int) (r : Int) (by omega) er1 W
  have es : (q : Int) - (x : Int) = (sh : Int) := by omega
  have et : (y : Int) - (r : Int) = (st : Int) := by omega
  have hy0i : ¬ (y : Int) = 0 := by omega
  have hsh1 : sh ≤ 123 := by rw [hshe]; exact hO.sh1
  have hyi : (0 : Int) < (y : Int) := by omega
  have hmk := fun W => run_make1 (P := Try.prog) 45 3 (.int .i64 0) 8 Try.underlying45 Try.infoIntC rfl (by decide) y (by omega) .i64 .i64 y rfl W
  have HY := Lib.hid hsy
  have HSH := Lib.hid hshe
  have HST := Lib.hid hste
  clear hs hx hy hT hq hr hsx hsy hsh hsr hf hO hshe hste hst
  go_enter Try.func25, Try.ntmps25
  go_wp2_with fail
  refine HC.out.mono ?_
  rintro e w1 ⟨rfl, hb⟩
  have HB := Lib.hid hb
  clear hb
  go_wp2_with fail
  refine (HT.out _).mono ?_
  rintro e w2 ⟨rfl, hb⟩
  have HB2 := Lib.hid (HB.out.trans (hb.mono HB.out.size))
  have HIA := Lib.hid (IA.zeros w2 3 y)
  have HB3 := Lib.hid (HB2.out.alloc HB2.out.size (.cells (zeros y (.int .i64 0)) 3))
  clear hb HC HT
  go_wp2_with fail
  obtain ⟨W0, hW0⟩ : ∃ W0, W0 = w2.alloc (.cells (zeros y (.int .i64 0)) 3) := ⟨_, rfl⟩
  obtain ⟨G, hG⟩ : ∃ G, G = w2.heap.size := ⟨_, rfl⟩
  rw [← hW0, ← hG] at HIA
  rw [← hW0] at HB3
  rw [← hW0, ← hG]
  have HG := Lib.hid (show w.heap.size ≤ G by rw [hG]; exact HB2.out.size)
  have HI0 : Hid (IA W0 3 G (sizeTo s 0)) := Lib.hid (by rw [sizeTo_zero, HY.out]; exact HIA.out)
  clear hW0 hG HIA hmk
  go_loopw [22] (fun i wr => ∃ k : Nat, k ≤ y ∧ i = .int .i64 k ∧ Hid (IA wr 3 G (sizeTo s k)) ∧ Hid (Below w.heap.size w wr)) (fun i _ => y - (intOf i).toNat)
  case atStart => exact ⟨0, by omega, rfl, HI0, HB3⟩
  case round =>
    obtain ⟨k, hk, rfl, HI, HBE⟩ := hrel
    clear HI0 HB3 HB HB2
    by_cases hlt : k < y
    · have hk0 : (0 : Int) ≤ (k : Int) := by omega
      have hk1 : (k : Int) < (y : Int) := by omega
      have c0 := HI.out.cell (j := k) (by rw [sizeTo_len, HY.out]; exact hlt)
      rw [sizeTo_nth _ _ _ (by rw [HY.out]; exact hlt), if_neg (by omega)] at c0
      have f0 := HI.out.free k
      have hI2 := HI.out.set_ k (s.ds k)
      rw [sizeTo_set] at hI2
      have hI3 := HBE.out.setCell (p := ⟨G, k, none⟩) HG.out (.int .i64 (s.ds k : Nat))
      by_cases hge : st ≤ k
      · have hge2 : (st : Int) ≤ (k : Int) := by omega
        have hds : s.ds k = sh + 1 := by rw [Sh.ds_hi (by rw [← HST.out]; exact hge), HSH.out]
        have hI4 := (HI.out.set_ k sh).set_ k (sh + 1)
        rw [List.set_set, ← hds, sizeTo_set, hds] at hI4
        have hI5 := (HBE.out.setCell (p := ⟨G, k, none⟩) HG.out (.int .i64 (sh : Nat))).setCell (p := ⟨G, k, none⟩) HG.out (.int .i64 ((sh + 1 : Nat) : Int))
        have esh : ((sh + 1 : Nat) : Int) = (sh : Int) + 1 := by omega
        rw [esh] at hI4 hI5
        have HI2 := Lib.hid hI4
        have HI3 := Lib.hid hI5
        clear hI4 hI5
        clear hI2 hI3 hds esh hge
        go_wp2_with fail
        go_roundw
        case rel => exact ⟨k + 1, by omega, by go_num, HI2, HI3⟩
        case measure => simp [intOf]; omega
      · have hge2 : ((st : Int) ≤ (k : Int)) = False := by simp; omega
        have hds : s.ds k = sh := by rw [Sh.ds_lo (by rw [← HST.out]; omega), HSH.out]
        rw [hds] at hI2 hI3
        have HI2 := Lib.hid hI2
        have HI3 := Lib.hid hI3
        clear hI2 hI3 hds hge HI
        go_wp2_with fail
        go_roundw
        case rel => exact ⟨k + 1, by omega, by go_num, HI2, HI3⟩
        case measure => simp [intOf]; omega
    · obtain rfl : k = y := by omega
      have hk1 : ((k : Int) < (k : Int)) = False := by simp
      go_wp2_with fail
      go_ret
      exact SizesPost.mk HY.out.symm HI.out HG.out HBE.out

set_option maxRecDepth 100000 in
theorem qrVer (x : Nat) (hx : x < 256) (w : World) :
    Calls Try.prog 19 #[.int .u8 x] w fun e w' => e = .returned (.int .i64 (1 + x % 40 : Nat)) ∧ w = w' := by
  obtain ⟨q, hq⟩ : ∃ q, q = 1 + x % 40 := ⟨_, rfl⟩
  have eq : (1 : Int) + (x : Int) % 40 = (q : Int) := by omega
  rw [← hq]
  clear hq
  go_enter Try.func19, Try.ntmps19
  go_wp2_with fail
  go_ret
  exact ⟨rfl, rfl⟩
set_option maxRecDepth 100000 in
theorem qrLev (x : Nat) (hx : x < 256) (w : World) :
    Calls Try.prog 9 #[.int .u8 x] w fun e w' => e = .returned (.int .i64 (x % 4 : Nat)) ∧ w = w' := by
  obtain ⟨q, hq⟩ : ∃ q, q = x % 4 := ⟨_, rfl⟩
  have eq : (x : Int) % 4 = (q : Int) := by omega
  rw [← hq]
  clear hq
  go_enter Try.func9, Try.ntmps9
  go_wp2_with fail
  go_ret
  exact ⟨by show Ending.returned (.int .i64 ((x : Int) % 4)) = _; rw [eq], rfl⟩

set_option maxRecDepth 100000 in
set_option maxHeartbeats 1600000 in
theorem bytesSame (A B : Option Addr) (n c1 c2 : Nat) (hn : n < 1000000) (f : Nat → Nat) (w : World) (h1 : Rd w A n (fun j => .int .u8 (f j : Nat))) (h2 : Rd w B n (fun j => .int .u8 (f j : Nat))) :
    Calls Try.prog 26 #[.slice A n c1, .slice B n c2] w fun e w' => e = .returned (.bool true) ∧ Below w.heap.size w w' := by
  have H1 := Lib.hid h1
  have H2 := Lib.hid h2
  clear h1 h2
  go_enter Try.func26, Try.ntmps26
  go_wp2_with fail
  go_loopw [13] (fun i wr => ∃ k : Nat, k ≤ n ∧ i = .int .i64 k ∧ Hid (Below w.heap.size w wr)) (fun i _ => n - (intOf i).toNat)
  case atStart => exact ⟨0, by omega, rfl, Lib.hid (Below.refl _ _)⟩
  case round =>
    obtain ⟨k, hk, rfl, HB⟩ := hrel
    by_cases hlt : k < n
    · obtain ⟨b1, o1, rfl, hb1, hc1⟩ := H1.out (by omega)
      obtain ⟨b2, o2, rfl, hb2, hc2⟩ := H2.out (by omega)
      have e1 := (HB.out.cell (p := ⟨b1, o1 + k, none⟩) hb1).trans (hc1 k hlt)
      have e2 := (HB.out.cell (p := ⟨b2, o2 + k, none⟩) hb2).trans (hc2 k hlt)
      dsimp only at e1 e2
      obtain ⟨v, hv⟩ : ∃ v, v = f k := ⟨_, rfl⟩
      rw [← hv] at e1 e2
      have hk1 : (k : Int) < (n : Int) := by omega
      have hk0 : (0 : Int) ≤ (k : Int) := by omega
      have hvv : ((v : Int) != (v : Int)) = false := by simp
      clear hc1 hc2 hv
      go_wp2_with fail
      go_quiet (fail)
      go_wp2_with fail
      go_roundw
      case rel => exact ⟨k + 1, by omega, by go_num, Lib.hid (below_drewN HB.out _)⟩
      case measure => simp [intOf]; omega
    · obtain rfl : k = n := by omega
      have hk1 : ((k : Int) < (k : Int)) = False := by simp
      go_wp2_with fail
      go_ret
      exact ⟨rfl, HB.out⟩

set_option maxRecDepth 100000 in
set_option maxHeartbeats 1600000 in
theorem intsSame (A B : Option Addr) (n c1 c2 : Nat) (hn : n < 1000000) (f : Nat → Nat) (w : World) (h1 : Rd w A n (fun j => .int .i64 (f j : Nat))) (h2 : Rd w B n (fun j => .int .i64 (f j : Nat))) :
    Calls Try.prog 24 #[.slice A n c1, .slice B n c2] w fun e w' => e = .returned (.bool true) ∧ Below w.heap.size w w' := by
  have H1 := Lib.hid h1
  have H2 := Lib.hid h2
  clear h1 h2
  go_enter Try.func24, Try.ntmps24
  go_wp2_with fail
  go_loopw [13] (fun i wr => ∃ k : Nat, k ≤ n ∧ i = .int .i64 k ∧ Hid (Below w.heap.size w wr)) (fun i _ => n - (intOf i).toNat)
  case atStart => exact ⟨0, by omega, rfl, Lib.hid (Below.refl _ _)⟩
  case round =>
    obtain ⟨k, hk, rfl, HB⟩ := hrel
    by_cases hlt : k < n
    · obtain ⟨b1, o1, rfl, hb1, hc1⟩ := H1.out (by omega)
      obtain ⟨b2, o2, rfl, hb2, hc2⟩ := H2.out (by omega)
      have e1 := (HB.out.cell (p := ⟨b1, o1 + k, none⟩) hb1).trans (hc1 k hlt)
      have e2 := (HB.out.cell (p := ⟨b2, o2 + k, none⟩) hb2).trans (hc2 k hlt)
      dsimp only at e1 e2
      obtain ⟨v, hv⟩ : ∃ v, v = f k := ⟨_, rfl⟩
      rw [← hv] at e1 e2
      have hk1 : (k : Int) < (n : Int) := by omega
      have hk0 : (0 : Int) ≤ (k : Int) := by omega
      have hvv : ((v : Int) != (v : Int)) = false := by simp
      clear hc1 hc2 hv
      go_wp2_with fail
      go_quiet (fail)
      go_wp2_with fail
      go_roundw
      case rel => exact ⟨k + 1, by omega, by go_num, Lib.hid (below_drewN HB.out _)⟩
      case measure => simp [intOf]; omega
    · obtain rfl : k = n := by omega
      have hk1 : ((k : Int) < (k : Int)) = False := by simp
      go_wp2_with fail
      go_ret
      exact ⟨rfl, HB.out⟩

/-- Some words, made by bytes. -/
def RawPost (m : Nat) (w : World) (e : Ending) (w' : World) : Prop := ∃ (b : Nat) (f : Nat → Nat), e = .returned (.slice (some ⟨b, 0, none⟩) m m) ∧ Arr w' 5 b (rowV (fun j => .int .u8 (f j : Nat)) m) ∧ w.heap.size ≤ b ∧ Below w.heap.size w w'
set_option maxRecDepth 100000 in
set_option maxHeartbeats 3200000 in
theorem qrRaw_ (A : Option Addr) (n c m : Nat) (z : Nat → Int) (hz : ∀ j, j < n → 0 ≤ z j ∧ z j ≤ 255) (hn : n < 4294967296) (hm : m < 1000000) (w : World) (h : Rd w A n (fun j => .int .u8 (z j))) :
    Calls Try.prog 21 #[.slice A n c, .int .i64 m] w (RawPost m w) := by
  have hmk := fun W => run_make1 (P := Try.prog) 41 5 (.int .u8 0) 1 Try.underlying41 Try.infoU8g rfl (by decide) m (by omega) .i64 .i64 m rfl W
  have H := Lib.hid h
  have HZ := Lib.hid hz
  have hA0 := Arr.new w 5 (List.replicate m (.int .u8 0))
  have hB0 : Below w.heap.size w (w.alloc (.cells (zeros m (.int .u8 0)) 5)) := (Below.refl _ _).alloc (Nat.le_refl _) _
  clear h hz
  go_enter Try.func21, Try.ntmps21
  go_wp2_with fail
  obtain ⟨W0, hW0⟩ : ∃ W0, W0 = w.alloc (.cells (zeros m (.int .u8 0)) 5) := ⟨_, rfl⟩
  obtain ⟨G, hG⟩ : ∃ G, G = w.heap.size := ⟨_, rfl⟩
  have HA0 : Hid (Arr W0 5 G (rowV (fun _ => .int .u8 ((0 : Nat) : Int)) m)) := Lib.hid (by rw [rowV_const, hW0, hG]; exact hA0)
  have HB0 : Hid (Below G w W0) := Lib.hid (by rw [hW0, hG]; exact hB0)
  rw [← hW0, ← hG]
  have HGE := Lib.hid hG
  clear hA0 hB0 hmk hW0 hG
  go_loopw [11] (fun i wr => ∃ (k : Nat) (f : Nat → Nat), k ≤ m ∧ i = .int .i64 k ∧ Hid (Arr wr 5 G (rowV (fun j => .int .u8 (f j : Nat)) m)) ∧ Hid (Below G w wr)) (fun i _ => m - (intOf i).toNat)
  case atStart => exact ⟨0, _, by omega, rfl, HA0, HB0⟩
  case round =>
    obtain ⟨k, f, hk, rfl, HA, HB⟩ := hrel
    clear HA0 HB0
    by_cases hlt : k < m
    · have hk1 : (k : Int) < (m : Int) := by omega
      have hk0 : (0 : Int) ≤ (k : Int) := by omega
      by_cases hn0 : 0 < n
      · obtain ⟨rb, ro, rfl, hrb, hrc⟩ := H.out hn0
        obtain ⟨j, hj⟩ : ∃ j, j = k % n := ⟨_, rfl⟩
        have hjl : j < n := by rw [hj]; exact Nat.mod_lt _ hn0
        obtain ⟨q, hq⟩ : ∃ q, q = k / n := ⟨_, rfl⟩
        have hql : q ≤ k := by rw [hq]; exact Nat.div_le_self _ _
        have ej : (k : Int).tmod (n : Int) = (j : Int) := by rw [Int.tmod_eq_emod_of_nonneg (by omega), hj]; simp
        have ej2 : (k : Int) % (n : Int) = (j : Int) := by rw [hj]; simp
        have eq1 : (k : Int).tdiv (n : Int) = (q : Int) := by rw [Int.tdiv_eq_ediv_of_nonneg (by omega), hq]; simp
        have eq2 : (k : Int) / (n : Int) = (q : Int) := by rw [hq]; simp
        have hrem := fun W => rem_runQ (k : Int) (n : Int) (j : Int) (by omega) ej W
        have cz := (HB.out.cell (p := ⟨rb, ro + j, none⟩) (by rw [HGE.out]; exact hrb)).trans (hrc j hjl)
        dsimp only at cz
        have hzj := HZ.out j hjl
        obtain ⟨v, hv⟩ : ∃ v, v = z j := ⟨_, rfl⟩
        rw [← hv] at cz hzj
        have cl : wr.cell? ⟨G, k, none⟩ = some (.int .u8 (f k : Nat)) := by rw [HA.out.cell?, rowV_get _ _ _ hlt]
        have fl := HA.out.free k
        obtain ⟨x0, hx0⟩ : ∃ x0 : Nat, x0 = f k := ⟨_, rfl⟩
        rw [← hx0] at cl
        have hj0 : (0 : Int) ≤ (j : Int) := by omega
        have hj1 : (j : Int) < (n : Int) := by omega
        have hn1 : (0 : Int) < (n : Int) := by omega
        have hn2 : ¬ (n : Int) = 0 := by omega
        have hq0 : (0 : Int) ≤ (q : Int) := by omega
        have hq1 : (q : Int) ≤ 1000000 := by omega
        have hwq : IntKind.i64.wrap (q : Int) = (q : Int) := by rw [IntKind.wrap_i64]; omega
        clear hrc hj hq hv hx0
        go_wp2_with fail
        go_region
        go_wp2_with fail
        go_roundw
        case rel =>
          have ev : (v + (q : Int)) % 256 = ((((v + (q : Int)) % 256).toNat : Nat) : Int) := by omega
          refine ⟨k + 1, fun i => if i = k then ((v + (q : Int)) % 256).toNat else f i, by omega, by go_num, Lib.hid ?_, Lib.hid ?_⟩
          · rw [ev]
            have h5 := HA.out.set_ k (.int .u8 (((v + (q : Int)) % 256).toNat : Nat))
            rw [rowV_set (g := fun i => .int .u8 ((if i = k then ((v + (q : Int)) % 256).toNat else f i : Nat) : Int)) (fun i hi => by by_cases e : i = k <;> simp [e])] at h5
            exact h5.mod (Mod.drewN (Mod.refl (S := fun _ => False) _) 1) (fun h => h)
          · exact below_drewN (HB.out.setCell (p := ⟨G, k, none⟩) (Nat.le_refl _) _) 1
        case measure => simp [intOf]; omega
      · obtain rfl : n = 0 := by omega
        go_wp2_with fail
        go_roundw
        case rel => exact ⟨k + 1, f, by omega, by go_num, HA, HB⟩
        case measure => simp [intOf]; omega
    · obtain rfl : k = m := by omega
      have hk1 : ((k : Int) < (k : Int)) = False := by simp
      go_wp2_with fail
      go_ret
      exact ⟨G, f, rfl, HA.out, by rw [HGE.out]; exact Nat.le_refl _, by rw [← HGE.out]; exact HB.out⟩
end Go.Proofs.Ytpeipolknphjhaa
