/-
  The reader's words of C40, Text, X12, walked (printed in part by genDXT.py). No condition beyond the bounds that each theorem states.
-/
import Derived.Test.YtcadknfcahmdcaaGreatDXS
import Derived.Deep.LoopGhost
import Derived.Deep.DeepCutAuto
namespace Go.Proofs.YtcadknfcahmdcaaGreat
open Go.RowKit Go.Qz Go.Qz.DF
open Go.Qz.DV hiding val run part
set_option linter.unusedVariables false

theorem threes_cases {mode s : Nat} {X o rest : List Nat} (h : Threes mode s X o rest) :
    (X = [] ∧ o = [] ∧ rest = []) ∨ (∃ c, X = [c] ∧ o = [] ∧ ((c ≠ 254 ∧ rest = [c]) ∨ (c = 254 ∧ rest = []))) ∨ (∃ r, X = 254 :: r ∧ r ≠ [] ∧ o = [] ∧ rest = r) ∨
    (∃ a b n s' r o1 o2, X = a :: b :: r ∧ a < 254 ∧ b < 256 ∧ 256 * a + b = n + 1 ∧ n < 64000 ∧ DV.run mode s [n / 1600, n / 40 % 40, n % 40] = some (o1, s') ∧ o = o1 ++ o2 ∧ Threes mode s' r o2 rest) := by
  cases h with
  | nil => exact .inl ⟨rfl, rfl, rfl⟩
  | one h => exact .inr (.inl ⟨_, rfl, rfl, .inl ⟨h, rfl⟩⟩)
  | last => exact .inr (.inl ⟨_, rfl, rfl, .inr ⟨rfl, rfl⟩⟩)
  | unl h => exact .inr (.inr (.inl ⟨_, rfl, h, rfl, rfl⟩))
  | pair ha hb hn h2 hr t => exact .inr (.inr (.inr ⟨_, _, _, _, _, _, _, rfl, ha, hb, hn, h2, hr, rfl, t⟩))
theorem drop_cons {L r : List Nat} {k a : Nat} (h : L.drop k = a :: r) : k < L.length ∧ nth L k = a ∧ L.drop (k + 1) = r := by
  have hk : k < L.length := by
    rcases Nat.lt_or_ge k L.length with g | g
    · exact g
    · rw [List.drop_eq_nil_of_le g] at h; cases h
  rw [drop_nth hk] at h
  injection h with h1 h2
  exact ⟨hk, h1, h2⟩
theorem drop_nil {L : List Nat} {k : Nat} (h : L.drop k = []) : L.length ≤ k := by
  rcases Nat.lt_or_ge k L.length with g | g
  · rw [drop_nth g] at h; cases h
  · exact g
/-- What a value may be, and what it says. -/
inductive Va (mode s v : Nat) : List Nat → Nat → Prop where
  | star (hm : mode = 3) (hv : v < 3) : Va mode s v [nth [13, 42, 62] v] s
  | x12 (hm : mode = 3) (hv : ¬ v < 3) : Va mode s v [say0 false v] s
  | one (hm : mode ≠ 3) (hs : s = 1) : Va mode s v [v] 0
  | two (hm : mode ≠ 3) (hs : s = 2) (hv : v < 27) : Va mode s v [say2 v] 0
  | three (hm : mode ≠ 3) (hs : s = 3) (hv : v ≤ 31) : Va mode s v [say3 (mode == 2) v] 0
  | shift (hm : mode ≠ 3) (h1 : s ≠ 1) (h2 : s ≠ 2) (h3 : s ≠ 3) (hv : v < 3) : Va mode s v [] (v + 1)
  | base (hm : mode ≠ 3) (h1 : s ≠ 1) (h2 : s ≠ 2) (h3 : s ≠ 3) (hv : ¬ v < 3) : Va mode s v [say0 (mode == 2) v] s
theorem va_of {mode s v : Nat} {o : List Nat} {s' : Nat} (hs3 : s ≤ 3) (h : DV.val mode s v = some (o, s')) : Va mode s v o s' := by
  unfold DV.val at h
  split at h
  · rename_i hm
    split at h
    · rename_i hv; injection h with h; injection h with h1 h2; subst h1 h2; exact .star hm hv
    · rename_i hv; injection h with h; injection h with h1 h2; subst h1 h2; exact .x12 hm hv
  · rename_i hm
    split at h
    · rename_i hs; injection h with h; injection h with h1 h2; subst h1 h2; exact .one hm hs
    · rename_i g1
      split at h
      · rename_i hs
        split at h
        · rename_i hv; injection h with h; injection h with h1 h2; subst h1 h2; exact .two hm hs hv
        · cases h
      · rename_i g2
        split at h
        · rename_i hs
          split at h
          · rename_i hv; injection h with h; injection h with h1 h2; subst h1 h2; exact .three hm hs hv
          · cases h
        · rename_i g3
          split at h
          · rename_i hv; injection h with h; injection h with h1 h2; subst h1 h2; exact .shift hm g1 g2 g3 hv
          · rename_i hv; injection h with h; injection h with h1 h2; subst h1
            have : s = 0 := by omega
            rw [← h2, ← this]
            exact .base hm g1 g2 g3 hv
theorem run_cons {mode s v : Nat} {l o : List Nat} {s' : Nat} (h : DV.run mode s (v :: l) = some (o, s')) : ∃ o1 s1 o2, DV.val mode s v = some (o1, s1) ∧ DV.run mode s1 l = some (o2, s') ∧ o = o1 ++ o2 := by
  simp only [DV.run] at h
  cases hv : DV.val mode s v with
  | none => rw [hv] at h; cases h
  | some p =>
    obtain ⟨o1, s1⟩ := p
    rw [hv] at h
    simp only at h
    cases hr : DV.run mode s1 l with
    | none => rw [hr] at h; cases h
    | some q =>
      obtain ⟨o2, s2⟩ := q
      rw [hr] at h
      simp only [Option.some.injEq, Prod.mk.injEq] at h
      obtain ⟨rfl, rfl⟩ := h
      exact ⟨o1, s1, o2, rfl, hr, rfl⟩
theorem say_bounds {v : Nat} (hv : v < 40) (b : Bool) : say0 b v ≤ 127 ∧ (v < 27 → say2 v ≤ 127) ∧ (v ≤ 31 → say3 b v ≤ 127) ∧ (v < 3 → nth [13, 42, 62] v ≤ 127) := by
  refine ⟨?_, fun h => ?_, fun h => ?_, fun h => ?_⟩
  · unfold say0; split
    · omega
    · split
      · omega
      · split <;> omega
  · unfold say2; split
    · omega
    · split <;> omega
  · unfold say3; split <;> omega
  · rcases (show v = 0 ∨ v = 1 ∨ v = 2 by omega) with rfl | rfl | rfl <;> decide
/-- A slice's block that the reader does not write. -/
theorem arr_step {w w' : World} {rb vb : Nat} {t : TypeId} {vs : List Value} {ov ov' : Value} (h : Arr w t vb vs) (hs : Step rb ov ov' w w') (h1 : vb ≠ rb) (h2 : ov.ownBlock ≠ some vb) : Arr w' t vb vs := Arr.mod h hs.1 (fun e => by
  rcases e with e | e
  · exact h1 e
  · exact h2 e)
set_option maxRecDepth 100000 in
set_option maxHeartbeats 12800000 in
theorem rThrees (mode : Nat) (hm1 : 1 ≤ mode) (hm3 : mode ≤ 3) {rb wb wo wc at_ : Nat} {L O : List Nat} {ov : Value} (w : World) (h : Rdr w rb wb wo wc L at_ ov O) (o rest : List Nat) (ht : Threes mode 0 (L.drop at_) o rest) (hat : at_ ≤ L.length) (hL : L.length ≤ 10000) (hO : O.length + o.length ≤ 90000) :
    Calls Tryz.prog 48 #[.pointer (some ⟨rb, 0, none⟩), .int .i64 mode] w (RPost rb wb wo wc L ov (L.length - rest.length) (O ++ o) (.tuple #[]) w) := by
  have HLL := Lib.hid hL
  have HOO := Lib.hid hO
  have HR0 := Lib.hid h
  have HT0 := Lib.hid ht
  have HAT := Lib.hid hat
  have HM : Hid (1 ≤ mode ∧ mode ≤ 3) := Lib.hid ⟨hm1, hm3⟩
  clear h ht hL hO hat hm1 hm3
  go_enter Tryz.func48, Tryz.ntmps48
  go_wp2_with fail
  go_loopg [4] (L.length - at_) (fun k st wr => ∃ (a s : Nat) (ov' : Value) (O' o' : List Nat), k = L.length - a ∧ st = .int .i64 s ∧ s ≤ 3 ∧ a ≤ 10000 ∧ Hid (Rdr wr rb wb wo wc L a ov' O') ∧ Hid (Step rb ov ov' w wr) ∧ Hid (Threes mode s (L.drop a) o' rest ∧ O' ++ o' = O ++ o ∧ a ≤ L.length))
  case atStart => exact ⟨at_, 0, ov, O, o, rfl, rfl, by omega, by have := HAT.out; have := HLL.out; omega, HR0, Lib.hid (Step.refl rb ov w), Lib.hid ⟨HT0.out, rfl, HAT.out⟩⟩
  case round =>
    obtain ⟨a, s, ov1, O1, o1, hgk, hst, hs3, hab, HR, HS, HI⟩ := hrel
    subst hst
    obtain ⟨w1, hw1⟩ : ∃ wz, wz = wr := ⟨_, rfl⟩
    rw [← hw1] at HR HS ⊢
    have HGK := Lib.hid hgk
    obtain ⟨R, hR⟩ : ∃ R, R = L.length - a := ⟨_, rfl⟩
    have HLF := Lib.hid (rLeft w1 HR.out (by have := HLL.out; omega) R (by have := HI.out; omega))
    obtain ⟨c0, c1, c2, c3⟩ := HR.out.cells
    have HRE : Hid (R + a = L.length) := Lib.hid (by have := HI.out; omega)
    have hRb : R ≤ 10000 := by have := HLL.out; omega
    have hOb : Hid (O1.length + o1.length ≤ 90000) := Lib.hid (by have h1 := congrArg List.length HI.out.2.1; rw [List.length_append, List.length_append] at h1; have := HOO.out; omega)
    clear hw1 hgk hR c0 c1 c2 HR0 HT0
    have HC := Lib.hid (threes_cases HI.out.1)
    go_wp2_with fail
    refine HLF.out.mono ?_
    rintro e w' ⟨rfl, mq, rfl⟩
    have HR2 := Lib.hid (HR.out.same (Same.drewN w1 mq))
    have HS2 : Hid (Step rb ov ov1 w (w1.drewN mq)) := Lib.hid (HS.out.trans (Step.of_same (Same.drewN w1 mq)))
    obtain ⟨w2, hw2⟩ : ∃ wz, wz = w1.drewN mq := ⟨_, rfl⟩
    rw [← hw2] at HR2 HS2 ⊢
    clear hw2 HR HS HLF c3
    by_cases h1 : 1 < R
    · have h1i : decide ((1 : Int) < (R : Int)) = true := decide_eq_true (by omega)
      have h1n : decide (1 < R) = true := decide_eq_true h1
      --[more
      obtain ⟨c, r, hX⟩ : ∃ c r, L.drop a = c :: r := by
        have : a < L.length := by have := HRE.out; omega
        exact ⟨_, _, drop_nth this⟩
      obtain ⟨ha, hna, hda⟩ := drop_cons hX
      have hc8 : c < 256 ∧ r ≠ [] := by
        have hlen := congrArg List.length hX
        rw [List.length_drop, List.length_cons] at hlen
        have hr : r ≠ [] := by intro e; rw [e] at hlen; simp at hlen; have := HRE.out; omega
        rcases HC.out with ⟨e, _⟩ | ⟨c', e, _⟩ | ⟨r', e, _⟩ | ⟨a', b', n', s', r', o1', o2', e, g1, _⟩
        · rw [hX] at e; cases e
        · rw [hX] at e; injection e with e1 e2; exact absurd e2 hr
        · rw [hX] at e; injection e with e1 e2; exact ⟨by omega, hr⟩
        · rw [hX] at e; injection e with e1 e2; exact ⟨by omega, hr⟩
      have HNX := Lib.hid (rNext w2 HR2.out (by have := HLL.out; omega) ha (by rw [hna]; exact hc8.1))
      rw [hna] at HNX
      have HX : Hid (L.drop a = c :: r ∧ r ≠ [] ∧ L.drop (a + 1) = r ∧ a < L.length) := Lib.hid ⟨hX, hc8.2, hda, ha⟩
      have hcb : c < 256 := hc8.1
      clear hX ha hna hda hc8
      go_wp2_with fail
      refine HNX.out.mono ?_
      rintro e w3 ⟨ov3, rfl, HR3, HS3⟩
      have HS3' : Hid (Step rb ov ov3 w w3) := Lib.hid (HS2.out.trans HS3.out)
      clear HNX HS3 HS2 HR2
      by_cases h254 : c = 254
      · have d254 : ((c : Int) == 254) = true := by simp; omega
        have HE : Hid (o1 = [] ∧ rest = r) := Lib.hid (by
          have hX := HX.out
          rcases HC.out with ⟨e, _⟩ | ⟨c', e, _⟩ | ⟨r', e, g1, g2, g3⟩ | ⟨a', b', n', s', r', o1', o2', e, g1, _⟩
          · rw [hX.1] at e; cases e
          · rw [hX.1] at e; injection e with e1 e2; exact absurd e2 hX.2.1
          · rw [hX.1] at e; injection e with e1 e2; exact ⟨g2, by rw [g3, e2]⟩
          · rw [hX.1] at e; injection e with e1 e2; omega)
        clear h254
        go_wp2_with fail
        refine bodyPost_ret (v := .tuple #[]) (by simp [results, Tryz.results48, go_sem]) rfl ⟨ov3, rfl, Lib.hid ?_, HS3'⟩
        have h1 := HI.out.2.1
        rw [HE.out.1, List.append_nil] at h1
        have h2 : a + 1 = L.length - rest.length := by
          have := congrArg List.length HX.out.1
          rw [List.length_drop, List.length_cons] at this
          rw [HE.out.2]; omega
        rw [← h1, ← h2]
        exact HR3.out
      · have d254 : ((c : Int) == 254) = false := by simp; omega
        obtain ⟨b, n, s', r', oa, ob, hd1, hb8, hn, hn2, hrun, ho, hth⟩ : ∃ b n s' r' oa ob, r = b :: r' ∧ b < 256 ∧ 256 * c + b = n + 1 ∧ n < 64000 ∧ DV.run mode s [n / 1600, n / 40 % 40, n % 40] = some (oa, s') ∧ o1 = oa ++ ob ∧ Threes mode s' r' ob rest := by
          have hX := HX.out
          rcases HC.out with ⟨e, _⟩ | ⟨c', e, _⟩ | ⟨r', e, g1, g2, g3⟩ | ⟨a', b', n', s', r', o1', o2', e, g1, g2, g3, g4, g5, g6, g7⟩
          · rw [hX.1] at e; cases e
          · rw [hX.1] at e; injection e with e1 e2; exact absurd e2 hX.2.1
          · rw [hX.1] at e; injection e with e1 e2; exact absurd e1 h254
          · rw [hX.1] at e; injection e with e1 e2
            subst e1
            exact ⟨b', n', s', r', o1', o2', e2, g2, g3, g4, g5, g6, g7⟩
        obtain ⟨ha1, hna1, hda1⟩ := drop_cons (L := L) (k := a + 1) (a := b) (r := r') (by rw [HX.out.2.2.1, hd1])
        have HNX := Lib.hid (rNext w3 HR3.out (by have := HLL.out; omega) ha1 (by rw [hna1]; exact hb8))
        rw [hna1] at HNX
        obtain ⟨m256, hm256⟩ : ∃ m, m = 256 * c := ⟨_, rfl⟩
        obtain ⟨n1, hn1⟩ : ∃ n1, n1 = n + 1 := ⟨_, rfl⟩
        have q1 : IntKind.i64.wrap (256 * (c : Int)) = (m256 : Int) := by rw [IntKind.wrap_i64]; omega
        have q2 : IntKind.i64.wrap ((m256 : Int) + (b : Int)) = (n1 : Int) := by rw [IntKind.wrap_i64]; omega
        have q3 : IntKind.i64.wrap ((n1 : Int) - 1) = (n : Int) := by rw [IntKind.wrap_i64]; omega
        obtain ⟨v1, hv1⟩ : ∃ v, v = n / 1600 := ⟨_, rfl⟩
        obtain ⟨n40, hn40⟩ : ∃ v, v = n / 40 := ⟨_, rfl⟩
        obtain ⟨v2, hv2⟩ : ∃ v, v = n40 % 40 := ⟨_, rfl⟩
        obtain ⟨v3, hv3⟩ : ∃ v, v = n % 40 := ⟨_, rfl⟩
        have p1 : IntKind.i64.wrap ((n : Int) / 1600) = (v1 : Int) := by rw [IntKind.wrap_i64]; omega
        have p1t : (n : Int).tdiv 1600 = (v1 : Int) := by rw [Int.tdiv_eq_ediv_of_nonneg (by omega)]; omega
        have p1a : (n : Int) / 1600 = (v1 : Int) := by omega
        have p2 : IntKind.i64.wrap ((n : Int) / 40) = (n40 : Int) := by rw [IntKind.wrap_i64]; omega
        have p2t : (n : Int).tdiv 40 = (n40 : Int) := by rw [Int.tdiv_eq_ediv_of_nonneg (by omega)]; omega
        have p2a : (n : Int) / 40 = (n40 : Int) := by omega
        have p3t : (n40 : Int).tmod 40 = (v2 : Int) := by rw [Int.tmod_eq_emod_of_nonneg (by omega)]; omega
        have p3a : (n40 : Int) % 40 = (v2 : Int) := by omega
        have p4t : (n : Int).tmod 40 = (v3 : Int) := by rw [Int.tmod_eq_emod_of_nonneg (by omega)]; omega
        have p4a : (n : Int) % 40 = (v3 : Int) := by omega
        have HV : Hid (v1 < 40 ∧ v2 < 40 ∧ v3 < 40) := Lib.hid ⟨by omega, by omega, by omega⟩
        have hv1b : v1 < 40 := by omega
        have hn40b : n40 < 1600 := by omega
        have HRUN : Hid (DV.run mode s [v1, v2, v3] = some (oa, s')) := Lib.hid (by rw [hv1, hv2, hn40, hv3]; exact hrun)
        have HTH : Hid (Threes mode s' (L.drop (a + 2)) ob rest ∧ o1 = oa ++ ob ∧ a + 2 ≤ L.length) := Lib.hid ⟨by rw [hda1]; exact hth, ho, by omega⟩
        have n64 : decide ((64000 : Int) ≤ (n : Int)) = false := decide_eq_false (by omega)
        have n0 : decide ((n : Int) < 0) = false := decide_eq_false (by omega)
        have hnb : n < 64000 := hn2
        clear hd1 hb8 hn hn2 hrun ho hth ha1 hna1 hda1 hm256 hn1 hv1 hn40 hv2 hv3 h254 HC HX
        go_wp2_with fail
        refine HNX.out.mono ?_
        rintro e w4 ⟨ov4, rfl, HR4, HS4⟩
        have HS4' : Hid (Step rb ov ov4 w w4) := Lib.hid (HS3'.out.trans HS4.out)
        clear HNX HS4 HS3' HR3
        obtain ⟨vb, hvb⟩ : ∃ vb, vb = w4.heap.size := ⟨_, rfl⟩
        obtain ⟨w5, hw5⟩ : ∃ w5, w5 = w4.alloc (.cells (#[.int .i64 v1, .int .i64 v2, .int .i64 v3]) 3) := ⟨_, rfl⟩
        have hs5 : Same w4 w5 := by rw [hw5]; exact Mod.alloc (Mod.refl _) _
        have HR5 := Lib.hid (HR4.out.same hs5)
        have HS5 : Hid (Step rb ov ov4 w w5) := Lib.hid (HS4'.out.trans (Step.of_same hs5))
        have HA5 : Hid (Arr w5 3 vb [.int .i64 v1, .int .i64 v2, .int .i64 v3]) := Lib.hid (by rw [hw5, hvb]; exact Arr.new w4 _ _)
        have HVB : Hid (vb ≠ rb ∧ ov4.ownBlock ≠ some vb) := Lib.hid ⟨by have := HR4.out.rlt; omega, fun e => by have := (HR4.out.ow.lt vb e).2; omega⟩
        have HVE := Lib.hid hvb
        have HW5 := Lib.hid hw5
        clear hs5 hvb hw5 HR4 HS4'
        go_wp2_with fail
        rw [← HVE.out, ← HW5.out]
        clear HVE HW5
        --[inner
        obtain ⟨wi, hwi⟩ : ∃ wi, wi = wr := ⟨_, rfl⟩
        clear hwi
        go_loopg [4, 38] 3 (fun k st i wr => ∃ (ii si : Nat) (ovi : Value) (Oi oi : List Nat), k = 3 - ii ∧ ii ≤ 3 ∧ st = .int .i64 si ∧ si ≤ 3 ∧ i = .int .i64 ii ∧ Hid (Rdr wr rb wb wo wc L (a + 1 + 1) ovi Oi) ∧ Hid (Step rb ov4 ovi w5 wr) ∧ Hid (DV.run mode si ([v1, v2, v3].drop ii) = some (oi, s') ∧ Oi ++ oi = O1 ++ oa))
        case atStart => exact ⟨0, s, ov4, O1, oa, rfl, by omega, rfl, hs3, rfl, HR5, Lib.hid (Step.refl rb ov4 w5), Lib.hid ⟨HRUN.out, rfl⟩⟩
        case round =>
          obtain ⟨ii, si, ovi, Oi, oi, hgi, hi3, hst, hsi, hii, HRi, HSi, HIi⟩ := hrel
          subst hst hii
          obtain ⟨wo, hwo⟩ : ∃ wz, wz = wr := ⟨_, rfl⟩
          rw [← hwo] at HRi HSi ⊢
          have HGI := Lib.hid hgi
          clear hwo hgi HR5
          by_cases hlt : ii < 3
          · have hlt1 : decide ((ii : Int) < 3) = true := decide_eq_true (by omega)
            have hlt2 : (ii : Int) < 3 := by omega
            have hge : (0 : Int) ≤ (ii : Int) := by omega
            obtain ⟨i1, hi1⟩ : ∃ i1, i1 = ii + 1 := ⟨_, rfl⟩
            have qi : IntKind.i64.wrap ((ii : Int) + 1) = (i1 : Int) := by rw [IntKind.wrap_i64]; omega
            have HI1 : Hid (i1 = ii + 1 ∧ ii < 3) := Lib.hid ⟨hi1, hlt⟩
            obtain ⟨y, hy⟩ : ∃ y, y = nth [v1, v2, v3] ii := ⟨_, rfl⟩
            have hy40 : y < 40 := by
              have := HV.out
              rcases (show ii = 0 ∨ ii = 1 ∨ ii = 2 by omega) with rfl | rfl | rfl <;> (rw [hy]; first | exact this.1 | exact this.2.1 | exact this.2.2)
            have cy : wo.cell? ⟨vb, ii, none⟩ = some (.int .i64 y) := by
              have hA := arr_step HA5.out HSi.out HVB.out.1 HVB.out.2
              rw [hA.cell? ii, hy]
              rcases (show ii = 0 ∨ ii = 1 ∨ ii = 2 by omega) with rfl | rfl | rfl <;> rfl
            obtain ⟨oc, s1, o2, hval, hrun2, hoi⟩ := run_cons (l := [v1, v2, v3].drop i1) (v := y) (by rw [hy, hi1, ← drop_nth (l := [v1, v2, v3]) (k := ii) (by simpa using hlt)]; exact HIi.out.1)
            have hva := va_of hsi hval
            have HN : Hid (s1 = s1 ∧ DV.run mode s1 ([v1, v2, v3].drop i1) = some (o2, s') ∧ Oi ++ (oc ++ o2) = O1 ++ oa) := Lib.hid ⟨rfl, hrun2, by rw [← hoi]; exact HIi.out.2⟩
            have HOL : Hid (Oi.length + oc.length ≤ 90000) := Lib.hid (by
              have h1 := congrArg List.length HN.out.2.2
              have h2 := hOb.out
              have h3 := congrArg List.length HTH.out.2.1
              simp only [List.length_append] at h1 h2 h3
              omega)
            clear hval hrun2 hoi hy hi1 hlt HIi
            cases hva with
            | star hm hv =>
              --[star
              have m3 : ((mode : Int) == 3) = true := by simp; omega
              clear hm
              have y3 : decide ((y : Int) < 3) = true := decide_eq_true (by omega)
              have y3n : decide (y < 3) = true := decide_eq_true (by omega)
              have y3i : ((y : Int) < 3) = True := eq_true (by omega)
              obtain ⟨x0, hx0⟩ : ∃ x, x = nth [13, 42, 62] y := ⟨_, rfl⟩
              rw [← hx0] at HN
              have hxb : x0 ≤ 127 := by rw [hx0]; exact (say_bounds hy40 false).2.2.2 hv
              obtain ⟨w6, hw6⟩ : ∃ w6, w6 = wo.alloc (.cells (#[.int .i64 13, .int .i64 42, .int .i64 62]) 3) := ⟨_, rfl⟩
              have hs6 : Same wo w6 := by rw [hw6]; exact Mod.alloc (Mod.refl _) _
              have hR6 := HRi.out.same hs6
              have hS6 : Step rb ov4 ovi w5 w6 := HSi.out.trans (Step.of_same hs6)
              have cz : w6.cell? ⟨wo.heap.size, y, none⟩ = some (.int .i64 x0) := by
                have hA : Arr w6 3 wo.heap.size [.int .i64 13, .int .i64 42, .int .i64 62] := by rw [hw6]; exact Arr.new wo _ _
                rw [hA.cell? y, hx0]
                rcases (show y = 0 ∨ y = 1 ∨ y = 2 by omega) with rfl | rfl | rfl <;> rfl
              have hyi : (0 : Int) ≤ (y : Int) := by omega
              have hyj : (y : Int) < 3 := by omega
              obtain ⟨zb, hzb⟩ : ∃ zb, zb = wo.heap.size := ⟨_, rfl⟩
              rw [← hzb] at cz
              have HSY := Lib.hid (rSay w6 hR6 x0 hxb (by have := HOL.out; omega))
              have HS6 := Lib.hid hS6
              have HW6 : Hid (wo.alloc (.cells (#[.int .i64 13, .int .i64 42, .int .i64 62]) 3) = w6) := Lib.hid hw6.symm
              have HZB : Hid (wo.heap.size = zb) := Lib.hid hzb.symm
              have czz : (wo.alloc (.cells (#[.int .i64 13, .int .i64 42, .int .i64 62]) 3)).cell? ⟨wo.heap.size, y, none⟩ = some (.int .i64 x0) := by rw [HW6.out, HZB.out]; exact cz
              clear hx0 hw6 hs6 hR6 hS6 hzb hv cz HRi HSi
              go_wp2_with fail
              rw [HW6.out]
              refine HSY.out.mono ?_
              rintro e w7 ⟨ov7, rfl, HR7, HS7⟩
              have HS7' : Hid (Step rb ov4 ov7 w5 w7) := Lib.hid (HS6.out.trans HS7.out)
              clear HSY HS7 HS6 czz
              go_wp2_with fail
              go_roundg (3 - i1)
              case measure => have := HI1.out; have := HGI.out; omega
              case rel => exact ⟨i1, si, ov7, Oi ++ [x0], o2, rfl, by have := HI1.out; omega, rfl, by omega, rfl, HR7, HS7', Lib.hid ⟨HN.out.2.1, by rw [List.append_assoc]; exact HN.out.2.2⟩⟩
              --]star
            | x12 hm hv =>
              --[x12
              have m3 : ((mode : Int) == 3) = true := by simp; omega
              clear hm
              have y3 : decide ((y : Int) < 3) = false := decide_eq_false (by omega)
              have y3n : decide (y < 3) = false := decide_eq_false (by omega)
              have y3i : ((y : Int) < 3) = False := eq_false (by omega)
              clear hv
              have HCC := Lib.hid (fun W => rSay0 y hy40 false W)
              obtain ⟨x0, hx0⟩ : ∃ x, x = say0 false y := ⟨_, rfl⟩
              rw [← hx0] at HCC HN
              have hxb : x0 ≤ 127 := by rw [hx0]; exact (say_bounds hy40 false).1
              clear hx0
              go_wp2_with fail
              refine (HCC.out wo).mono ?_
              rintro e w' ⟨rfl, rfl⟩
              have HSY := Lib.hid (rSay wo HRi.out x0 (hxb) (by have := HOL.out; omega))
              go_wp2_with fail
              refine HSY.out.mono ?_
              rintro e w7 ⟨ov7, rfl, HR7, HS7⟩
              have HS7' : Hid (Step rb ov4 ov7 w5 w7) := Lib.hid (HSi.out.trans HS7.out)
              clear HSY HS7 HRi HSi
              go_wp2_with fail
              go_roundg (3 - i1)
              case measure => have := HI1.out; have := HGI.out; omega
              case rel => exact ⟨i1, si, ov7, Oi ++ [x0], o2, rfl, by have := HI1.out; omega, rfl, by omega, rfl, HR7, HS7', Lib.hid ⟨HN.out.2.1, by rw [List.append_assoc]; exact HN.out.2.2⟩⟩
              --]x12
            | one hm hs =>
              --[one
              have m3 : ((mode : Int) == 3) = false := by simp; omega
              clear hm
              obtain rfl : si = 1 := by omega
              have HSY := Lib.hid (rSay wo HRi.out y (by omega) (by have := HOL.out; omega))
              go_wp2_with fail
              refine HSY.out.mono ?_
              rintro e w7 ⟨ov7, rfl, HR7, HS7⟩
              have HS7' : Hid (Step rb ov4 ov7 w5 w7) := Lib.hid (HSi.out.trans HS7.out)
              clear HSY HS7 HRi HSi
              go_wp2_with fail
              go_roundg (3 - i1)
              case measure => have := HI1.out; have := HGI.out; omega
              case rel => exact ⟨i1, 0, ov7, Oi ++ [y], o2, rfl, by have := HI1.out; omega, rfl, by omega, rfl, HR7, HS7', Lib.hid ⟨HN.out.2.1, by rw [List.append_assoc]; exact HN.out.2.2⟩⟩
              --]one
            | two hm hs hv =>
              --[two
              have m3 : ((mode : Int) == 3) = false := by simp; omega
              clear hm
              obtain rfl : si = 2 := by omega
              have HCC := Lib.hid (fun W => rSay2 y hv W)
              obtain ⟨x0, hx0⟩ : ∃ x, x = say2 y := ⟨_, rfl⟩
              rw [← hx0] at HCC HN
              have hxb : x0 ≤ 127 := by rw [hx0]; exact (say_bounds hy40 false).2.1 hv
              clear hx0
              go_wp2_with fail
              refine (HCC.out wo).mono ?_
              rintro e w' ⟨rfl, rfl⟩
              have HSY := Lib.hid (rSay wo HRi.out x0 (hxb) (by have := HOL.out; omega))
              go_wp2_with fail
              refine HSY.out.mono ?_
              rintro e w7 ⟨ov7, rfl, HR7, HS7⟩
              have HS7' : Hid (Step rb ov4 ov7 w5 w7) := Lib.hid (HSi.out.trans HS7.out)
              clear HSY HS7 HRi HSi
              go_wp2_with fail
              go_roundg (3 - i1)
              case measure => have := HI1.out; have := HGI.out; omega
              case rel => exact ⟨i1, 0, ov7, Oi ++ [x0], o2, rfl, by have := HI1.out; omega, rfl, by omega, rfl, HR7, HS7', Lib.hid ⟨HN.out.2.1, by rw [List.append_assoc]; exact HN.out.2.2⟩⟩
              --]two
            | three hm hs hv =>
              --[three
              obtain rfl : si = 3 := by omega
              rcases (show mode = 1 ∨ mode = 2 by have := HM.out; omega) with rfl | rfl
              · rw [show ((1 : Nat) == 2) = false from rfl] at HN
                clear hm
                have HCC := Lib.hid (fun W => rSay3 y hv false W)
                obtain ⟨x0, hx0⟩ : ∃ x, x = say3 false y := ⟨_, rfl⟩
                rw [← hx0] at HCC HN
                have hxb : x0 ≤ 127 := by rw [hx0]; exact (say_bounds hy40 false).2.2.1 hv
                clear hx0
                go_wp2_with fail
                refine (HCC.out wo).mono ?_
                rintro e w' ⟨rfl, rfl⟩
                have HSY := Lib.hid (rSay wo HRi.out x0 (hxb) (by have := HOL.out; omega))
                go_wp2_with fail
                refine HSY.out.mono ?_
                rintro e w7 ⟨ov7, rfl, HR7, HS7⟩
                have HS7' : Hid (Step rb ov4 ov7 w5 w7) := Lib.hid (HSi.out.trans HS7.out)
                clear HSY HS7 HRi HSi
                go_wp2_with fail
                go_roundg (3 - i1)
                case measure => have := HI1.out; have := HGI.out; omega
                case rel => exact ⟨i1, 0, ov7, Oi ++ [x0], o2, rfl, by have := HI1.out; omega, rfl, by omega, rfl, HR7, HS7', Lib.hid ⟨HN.out.2.1, by rw [List.append_assoc]; exact HN.out.2.2⟩⟩
              · rw [show ((2 : Nat) == 2) = true from rfl] at HN
                clear hm
                have HCC := Lib.hid (fun W => rSay3 y hv true W)
                obtain ⟨x0, hx0⟩ : ∃ x, x = say3 true y := ⟨_, rfl⟩
                rw [← hx0] at HCC HN
                have hxb : x0 ≤ 127 := by rw [hx0]; exact (say_bounds hy40 true).2.2.1 hv
                clear hx0
                go_wp2_with fail
                refine (HCC.out wo).mono ?_
                rintro e w' ⟨rfl, rfl⟩
                have HSY := Lib.hid (rSay wo HRi.out x0 (hxb) (by have := HOL.out; omega))
                go_wp2_with fail
                refine HSY.out.mono ?_
                rintro e w7 ⟨ov7, rfl, HR7, HS7⟩
                have HS7' : Hid (Step rb ov4 ov7 w5 w7) := Lib.hid (HSi.out.trans HS7.out)
                clear HSY HS7 HRi HSi
                go_wp2_with fail
                go_roundg (3 - i1)
                case measure => have := HI1.out; have := HGI.out; omega
                case rel => exact ⟨i1, 0, ov7, Oi ++ [x0], o2, rfl, by have := HI1.out; omega, rfl, by omega, rfl, HR7, HS7', Lib.hid ⟨HN.out.2.1, by rw [List.append_assoc]; exact HN.out.2.2⟩⟩
              --]three
            | shift hm h1 h2 h3 hv =>
              --[shift
              have m3 : ((mode : Int) == 3) = false := by simp; omega
              clear hm
              have s1 : ((si : Int) == 1) = false := by simp; omega
              have s2 : ((si : Int) == 2) = false := by simp; omega
              have s3 : ((si : Int) == 3) = false := by simp; omega
              have y3 : decide ((y : Int) < 3) = true := decide_eq_true (by omega)
              have y3n : decide (y < 3) = true := decide_eq_true (by omega)
              have y3i : ((y : Int) < 3) = True := eq_true (by omega)
              obtain ⟨y1, hy1⟩ : ∃ y1, y1 = y + 1 := ⟨_, rfl⟩
              have qy : IntKind.i64.wrap ((y : Int) + 1) = (y1 : Int) := by rw [IntKind.wrap_i64]; omega
              have hy13 : y1 ≤ 3 := by omega
              rw [← hy1] at HN
              clear hv hy1
              go_wp2_with fail
              go_roundg (3 - i1)
              case measure => have := HI1.out; have := HGI.out; omega
              case rel => exact ⟨i1, y1, ovi, Oi, o2, rfl, by have := HI1.out; omega, rfl, hy13, rfl, HRi, HSi, Lib.hid ⟨HN.out.2.1, HN.out.2.2⟩⟩
              --]shift
            | base hm h1 h2 h3 hv =>
              --[base
              have s1 : ((si : Int) == 1) = false := by simp; omega
              have s2 : ((si : Int) == 2) = false := by simp; omega
              have s3 : ((si : Int) == 3) = false := by simp; omega
              have y3 : decide ((y : Int) < 3) = false := decide_eq_false (by omega)
              have y3n : decide (y < 3) = false := decide_eq_false (by omega)
              have y3i : ((y : Int) < 3) = False := eq_false (by omega)
              clear hv
              rcases (show mode = 1 ∨ mode = 2 by have := HM.out; omega) with rfl | rfl
              · rw [show ((1 : Nat) == 2) = false from rfl] at HN
                clear hm
                have HCC := Lib.hid (fun W => rSay0 y hy40 false W)
                obtain ⟨x0, hx0⟩ : ∃ x, x = say0 false y := ⟨_, rfl⟩
                rw [← hx0] at HCC HN
                have hxb : x0 ≤ 127 := by rw [hx0]; exact (say_bounds hy40 false).1
                clear hx0
                go_wp2_with fail
                refine (HCC.out wo).mono ?_
                rintro e w' ⟨rfl, rfl⟩
                have HSY := Lib.hid (rSay wo HRi.out x0 (hxb) (by have := HOL.out; omega))
                go_wp2_with fail
                refine HSY.out.mono ?_
                rintro e w7 ⟨ov7, rfl, HR7, HS7⟩
                have HS7' : Hid (Step rb ov4 ov7 w5 w7) := Lib.hid (HSi.out.trans HS7.out)
                clear HSY HS7 HRi HSi
                go_wp2_with fail
                go_roundg (3 - i1)
                case measure => have := HI1.out; have := HGI.out; omega
                case rel => exact ⟨i1, si, ov7, Oi ++ [x0], o2, rfl, by have := HI1.out; omega, rfl, by omega, rfl, HR7, HS7', Lib.hid ⟨HN.out.2.1, by rw [List.append_assoc]; exact HN.out.2.2⟩⟩
              · rw [show ((2 : Nat) == 2) = true from rfl] at HN
                clear hm
                have HCC := Lib.hid (fun W => rSay0 y hy40 true W)
                obtain ⟨x0, hx0⟩ : ∃ x, x = say0 true y := ⟨_, rfl⟩
                rw [← hx0] at HCC HN
                have hxb : x0 ≤ 127 := by rw [hx0]; exact (say_bounds hy40 true).1
                clear hx0
                go_wp2_with fail
                refine (HCC.out wo).mono ?_
                rintro e w' ⟨rfl, rfl⟩
                have HSY := Lib.hid (rSay wo HRi.out x0 (hxb) (by have := HOL.out; omega))
                go_wp2_with fail
                refine HSY.out.mono ?_
                rintro e w7 ⟨ov7, rfl, HR7, HS7⟩
                have HS7' : Hid (Step rb ov4 ov7 w5 w7) := Lib.hid (HSi.out.trans HS7.out)
                clear HSY HS7 HRi HSi
                go_wp2_with fail
                go_roundg (3 - i1)
                case measure => have := HI1.out; have := HGI.out; omega
                case rel => exact ⟨i1, si, ov7, Oi ++ [x0], o2, rfl, by have := HI1.out; omega, rfl, by omega, rfl, HR7, HS7', Lib.hid ⟨HN.out.2.1, by rw [List.append_assoc]; exact HN.out.2.2⟩⟩
              --]base
          · have hlt1 : decide ((ii : Int) < 3) = false := decide_eq_false (by omega)
            have hlt2 : ((ii : Int) < 3) = False := eq_false (by omega)
            obtain rfl : ii = 3 := by omega
            have HE : Hid (oi = [] ∧ si = s') := Lib.hid (by
              have := HIi.out.1
              simp only [List.drop, DV.run, Option.some.injEq, Prod.mk.injEq] at this
              exact ⟨this.1.symm, this.2⟩)
            have HSo : Hid (Step rb ov ovi w wo) := Lib.hid (HS5.out.trans HSi.out)
            have hab2 : a + 1 + 1 ≤ 10000 := by have := HTH.out; have := HLL.out; omega
            have HFI : Hid (Threes mode si (L.drop (a + 1 + 1)) ob rest ∧ Oi ++ ob = O ++ o ∧ a + 1 + 1 ≤ L.length) := Lib.hid ⟨by rw [HE.out.2]; exact HTH.out.1, by
              have h1 := HIi.out.2
              rw [HE.out.1, List.append_nil] at h1
              rw [h1, List.append_assoc, ← HTH.out.2.1]; exact HI.out.2.1, HTH.out.2.2⟩
            clear hlt HIi HE HS5 HSi
            go_wp2_with fail
            go_roundg (L.length - (a + 1 + 1))
            case measure => have := HGK.out; have := HFI.out; omega
            case rel => exact ⟨a + 1 + 1, si, ovi, Oi, ob, rfl, rfl, hsi, hab2, HRi, HSo, HFI⟩
        --]inner
      --]more
    · have h1i : decide ((1 : Int) < (R : Int)) = false := decide_eq_false (by omega)
      have h1n : decide (1 < R) = false := decide_eq_false h1
      --[last
      have HCX : Hid ((R = 0 ∧ o1 = [] ∧ rest = []) ∨ (R = 1 ∧ ∃ c, nth L a = c ∧ a < L.length ∧ o1 = [] ∧ ((c ≠ 254 ∧ rest = [c]) ∨ (c = 254 ∧ rest = [])))) := Lib.hid (by
        rcases HC.out with ⟨e, g1, g2⟩ | ⟨c', e, g1, g2⟩ | ⟨r', e, g1, _, _⟩ | ⟨a', b', n', s', r', o1', o2', e, _⟩
        · have := drop_nil e; have := HRE.out; exact .inl ⟨by omega, g1, g2⟩
        · obtain ⟨ha, hna, hda⟩ := drop_cons e
          have := drop_nil hda
          exact .inr ⟨by have := HRE.out; omega, c', hna, ha, g1, g2⟩
        · obtain ⟨ha, hna, hda⟩ := drop_cons e
          have h3 := congrArg List.length e
          rw [List.length_drop, List.length_cons] at h3
          have : r'.length ≠ 0 := fun h => g1 (List.eq_nil_of_length_eq_zero h)
          have := HRE.out; omega
        · have h3 := congrArg List.length e
          rw [List.length_drop, List.length_cons, List.length_cons] at h3
          have := HRE.out; omega)
      have HLF2 := Lib.hid (fun k => rLeft (w2.drewN k) (HR2.out.same (Same.drewN w2 k)) (by have := HLL.out; omega) R HRE.out)
      have HOE : Hid (o1 = [] → O1 = O ++ o) := Lib.hid (fun e => by have := HI.out.2.1; rw [e, List.append_nil] at this; exact this)
      obtain ⟨d0, d1, d2, d3⟩ := HR2.out.cells
      rcases HCX.out with ⟨hR0, ho, hr⟩ | ⟨hR1, c, hc, ha, ho, hr⟩
      · subst hR0
        have HFIN : Hid (O1 = O ++ o ∧ a = L.length - rest.length) := Lib.hid ⟨HOE.out ho, by rw [hr]; have := HRE.out; simp only [List.length_nil]; omega⟩
        clear ho hr HCX HC h1 d0 d1 d2 d3
        go_wp2_with fail
        go_quiet ((go_at_call 45; exact Calls.quiet_of (HLF2.out _)))
        go_wp2_with fail
        go_end0
        exact ⟨ov1, rfl, Lib.hid (by rw [← HFIN.out.1, ← HFIN.out.2]; exact HR2.out.same (Same.drewN w2 _)), Lib.hid (HS2.out.trans (Step.of_same (Same.drewN w2 _)))⟩
      · subst hR1
        have cw := HR2.out.wd a ha
        rw [hc] at cw
        obtain ⟨n, hn⟩ : ∃ n, n = L.length := ⟨_, rfl⟩
        rw [← hn] at d0
        have hge : (0 : Int) ≤ (a : Int) := by omega
        have hlt : (a : Int) < (n : Int) := by omega
        have hltn : a < n := by omega
        have HN := Lib.hid hn
        have HCA := Lib.hid hr
        by_cases h254 : c = 254
        · have HFIN : Hid (O1 = O ++ o ∧ a + 1 = L.length - rest.length) := Lib.hid ⟨HOE.out ho, by
            rcases hr with ⟨g, _⟩ | ⟨_, g⟩
            · exact absurd h254 g
            · rw [g]; have := HRE.out; simp only [List.length_nil]; omega⟩
          obtain rfl : c = 254 := h254
          obtain ⟨a1, ha1⟩ : ∃ a1, a1 = a + 1 := ⟨_, rfl⟩
          have q1 : IntKind.i64.wrap ((a : Int) + 1) = (a1 : Int) := by rw [IntKind.wrap_i64]; omega
          have HA1 := Lib.hid ha1
          clear ho hr HCX HC h1 hn hc ha ha1 d2 d3
          go_wp2_with fail
          go_quiet ((go_at_call 45; exact Calls.quiet_of (HLF2.out _)))
          obtain ⟨w3, hw3⟩ : ∃ w3, w3 = w2.drewN nq := ⟨_, rfl⟩
          have HR3 := Lib.hid (HR2.out.same (Same.drewN w2 nq))
          have HS3 : Hid (Step rb ov ov1 w (w2.drewN nq)) := Lib.hid (HS2.out.trans (Step.of_same (Same.drewN w2 nq)))
          rw [← hw3] at HR3 HS3 ⊢
          obtain ⟨e0, e1, e2, e3⟩ := HR3.out.cells
          have f1 := HR3.out.ar.free 1
          have HR4 := Lib.hid (HR3.out.setAt a1)
          have hst := Mod.set1 w3 rb 1 (.int .i64 a1)
          have HS4 : Hid (Step rb ov ov1 w (w3.setCell ⟨rb, 1, none⟩ (.int .i64 a1))) := Lib.hid (HS3.out.trans (Step.of_p hst))
          clear hw3 hst d0 d1 cw e0 e2 e3 HR2 HR3 HS3
          go_wp2_with fail
          go_end0
          exact ⟨ov1, rfl, Lib.hid (by rw [← HFIN.out.1, ← HFIN.out.2, ← HA1.out]; exact HR4.out), HS4⟩
        · have HFIN : Hid (O1 = O ++ o ∧ a = L.length - rest.length) := Lib.hid ⟨HOE.out ho, by
            rcases hr with ⟨_, g⟩ | ⟨g, _⟩
            · rw [g]; have := HRE.out; simp only [List.length_cons, List.length_nil]; omega
            · exact absurd g h254⟩
          have d254 : ((c : Int) == 254) = false := by simp; omega
          clear ho hr HCX HC h1 hn hc ha h254 d2 d3
          go_wp2_with fail
          go_quiet ((go_at_call 45; exact Calls.quiet_of (HLF2.out _)))
          go_wp2_with fail
          go_end0
          exact ⟨ov1, rfl, Lib.hid (by rw [← HFIN.out.1, ← HFIN.out.2]; exact HR2.out.same (Same.drewN w2 _)), Lib.hid (HS2.out.trans (Step.of_same (Same.drewN w2 _)))⟩
      --]last
end Go.Proofs.YtcadknfcahmdcaaGreat
