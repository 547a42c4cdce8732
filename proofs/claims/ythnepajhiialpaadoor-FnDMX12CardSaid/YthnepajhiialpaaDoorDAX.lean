/-
  Data Matrix words of the reference in the mode X12, walked. No condition beyond the bounds that each theorem states.
-/
import Derived.Test.YthnepajhiialpaaDoorDAW
import Derived.Test.YthnepajhiialpaaDoorDAS
namespace Go.Proofs.YthnepajhiialpaaDoor
open Go.RowKit Go.Qz Go.Qz.DW
set_option linter.unusedVariables false

theorem tris_drop {V : List Nat} {q : Nat} (h : q + 2 < V.length) : tris (V.drop q) = tri (nth V q) (nth V (q + 1)) (nth V (q + 2)) / 256 :: tri (nth V q) (nth V (q + 1)) (nth V (q + 2)) % 256 :: tris (V.drop (q + 3)) := by
  rw [drop_nth (show q < V.length by omega), drop_nth (show q + 1 < V.length by omega), drop_nth h]; rfl
theorem tris_end {V : List Nat} {q : Nat} (h : V.length ≤ q + 2) : tris (V.drop q) = [] := by
  have : (V.drop q).length ≤ 2 := by rw [List.length_drop]; omega
  match V.drop q, this with
  | [], _ => rfl
  | [_], _ => rfl
  | [_, _], _ => rfl
  | _ :: _ :: _ :: _, h => simp at h
theorem tris_len : ∀ (n : Nat) (V : List Nat), V.length ≤ n → (tris V).length ≤ V.length
  | _, [], _ => Nat.le_refl _
  | _, [_], _ => Nat.zero_le _
  | _, [_, _], _ => Nat.zero_le _
  | n + 1, a :: b :: c :: r, h => by
    simp only [List.length_cons] at h
    have := tris_len n r (by omega)
    simp only [tris, List.length_cons]; omega
  | 0, _ :: _ :: _ :: _, h => by simp at h
theorem u8l_two (X : List Nat) (g l : Nat) : u8l (X ++ [g, l]) = u8l X ++ (List.range 2).map (fun j => Value.int .u8 (nth [g, l] j : Nat)) := by
  unfold u8l; rw [List.map_append]; rfl
set_option maxRecDepth 100000 in
set_option maxHeartbeats 3200000 in
theorem triples (V : List Nat) (m c : Nat) (hm : m = V.length) (hm2 : m < 100000) (hV : ∀ j, j < m → nth V j < 40) (A : Option Addr) (w : World) (h : Rd w A m (fun j => .int .i64 (nth V j : Nat))) :
    Calls Tryd.prog 43 #[.slice A m c] w (RowPost (tris V) w) := by
  have HV := Lib.hid hV
  have HR := Lib.hid h
  have HM := Lib.hid hm
  clear hV h hm
  go_enter Tryd.func43, Tryd.ntmps43
  go_wp2_with fail
  go_loopw [3, 4] (fun v i wr => ∃ (q : Nat) (X : List Nat), q ≤ m + 2 ∧ X.length ≤ q ∧ i = .int .i64 q ∧ Hid (X ++ tris (V.drop q) = tris V) ∧ Hid (wr.ownsRow w.heap.size 5 1 v X.length (u8l X)) ∧ Hid (Below w.heap.size w wr)) (fun _ i _ => m + 2 - (intOf i).toNat)
  case atStart => exact ⟨0, [], by omega, Nat.le_refl _, rfl, Lib.hid rfl, Lib.hid (World.ownsRow_nil _ _ _ _), Lib.hid (Below.refl _ _)⟩
  case round =>
    obtain ⟨q, X, hq, hXq, rfl, HX, HO, HBE⟩ := hrel
    obtain ⟨wi, hwi⟩ : ∃ wi, wi = wr := ⟨_, rfl⟩
    rw [← hwi] at HO HBE ⊢
    clear hwi
    obtain ⟨XL, hXL⟩ : ∃ x, x = X.length := ⟨_, rfl⟩
    rw [← hXL] at HO hXq
    have HXL := Lib.hid hXL
    clear hXL
    obtain ⟨q2, hq2⟩ : ∃ x, x = q + 2 := ⟨_, rfl⟩
    obtain ⟨q1, hq1⟩ : ∃ x, x = q + 1 := ⟨_, rfl⟩
    have e2 : (q : Int) + 2 = (q2 : Int) := by omega
    have e1 : (q : Int) + 1 = (q1 : Int) := by omega
    have hq2b : q2 < 100010 := by omega
    have HQ2 := Lib.hid hq2
    have HQ1 := Lib.hid hq1
    clear hq1 hq2
    by_cases hlt : q2 < m
    · have hl2 : (q2 : Int) < (m : Int) := by omega
      have hl1 : (q1 : Int) < (m : Int) := by have := HQ1.out; have := HQ2.out; omega
      have hl0 : (q : Int) < (m : Int) := by have := HQ2.out; omega
      have h0 : (0 : Int) ≤ (q : Int) := by omega
      have h1 : (0 : Int) ≤ (q1 : Int) := by omega
      have h2 : (0 : Int) ≤ (q2 : Int) := by omega
      obtain ⟨b, o, rfl, hb, hc⟩ := (HR.out.below HBE.out) (by omega)
      have c0 := hc q (by omega)
      have c1 := hc q1 (by omega)
      have c2 := hc q2 (by omega)
      dsimp only at c0 c1 c2
      have HT := tris_drop (V := V) (q := q) (by have := HM.out; have := HQ2.out; omega)
      rw [← HQ1.out, ← HQ2.out] at HT
      have v0 := HV.out q (by omega)
      have v1 := HV.out q1 (by omega)
      have v2 := HV.out q2 (by omega)
      obtain ⟨x, hx⟩ : ∃ x, x = nth V q := ⟨_, rfl⟩
      obtain ⟨y, hy⟩ : ∃ x, x = nth V q1 := ⟨_, rfl⟩
      obtain ⟨z, hz⟩ : ∃ x, x = nth V q2 := ⟨_, rfl⟩
      rw [← hx, ← hy, ← hz] at HT
      rw [← hx] at c0 v0
      rw [← hy] at c1 v1
      rw [← hz] at c2 v2
      obtain ⟨x1, hx1⟩ : ∃ a, a = 1600 * x := ⟨_, rfl⟩
      obtain ⟨y1, hy1⟩ : ∃ a, a = 40 * y := ⟨_, rfl⟩
      obtain ⟨s1, hs1⟩ : ∃ a, a = x1 + y1 := ⟨_, rfl⟩
      obtain ⟨s2, hs2⟩ : ∃ a, a = s1 + z := ⟨_, rfl⟩
      obtain ⟨T, hT⟩ : ∃ a, a = s2 + 1 := ⟨_, rfl⟩
      obtain ⟨g, hg⟩ : ∃ a, a = T / 256 := ⟨_, rfl⟩
      obtain ⟨l, hl⟩ : ∃ a, a = T % 256 := ⟨_, rfl⟩
      have HT := Lib.hid HT
      rw [show tri x y z = T by unfold tri; omega, ← hg, ← hl] at HT
      have w1 : IntKind.i64.wrap (1600 * (x : Int)) = (x1 : Int) := by rw [IntKind.wrap_i64]; omega
      have w2 : IntKind.i64.wrap (40 * (y : Int)) = (y1 : Int) := by rw [IntKind.wrap_i64]; omega
      have w3 : IntKind.i64.wrap ((x1 : Int) + (y1 : Int)) = (s1 : Int) := by rw [IntKind.wrap_i64]; omega
      have w4 : IntKind.i64.wrap ((s1 : Int) + (z : Int)) = (s2 : Int) := by rw [IntKind.wrap_i64]; omega
      have w5 : IntKind.i64.wrap ((s2 : Int) + 1) = (T : Int) := by rw [IntKind.wrap_i64]; omega
      have w6 : IntKind.i64.wrap (q1 : Int) = (q1 : Int) := by rw [IntKind.wrap_i64]; omega
      have w7 : IntKind.i64.wrap (q2 : Int) = (q2 : Int) := by rw [IntKind.wrap_i64]; omega
      have t1 : (T : Int).tdiv 256 = (g : Int) := by rw [Int.tdiv_eq_ediv_of_nonneg (by omega)]; omega
      have t2 : (T : Int) / 256 = (g : Int) := by omega
      have t3 : (T : Int).tmod 256 = (l : Int) := by rw [Int.tmod_eq_emod_of_nonneg (by omega)]; omega
      have t4 : (T : Int) % 256 = (l : Int) := by omega
      have hgb : g ≤ 250 := by omega
      have hlb : l < 256 := by omega
      have hTb : T ≤ 64000 := by omega
      obtain ⟨q3, hq3⟩ : ∃ a, a = q + 3 := ⟨_, rfl⟩
      have e3 : (q : Int) + 3 = (q3 : Int) := by omega
      have HQ3 := Lib.hid hq3
      rw [← hq3] at HT
      clear hx hy hz hx1 hy1 hs1 hs2 hT hg hl hq3 hc
      go_wp2_with fail
      go_quiet (fail)
      clear w1 w2 w3 w4 w5 w6 w7 c0 c1 c2
      have HO1 : Hid ((wi.drewN nq).ownsRow w.heap.size 5 1 u3 XL (u8l X)) := Lib.hid (show (wi.drewN nq).ownsRow w.heap.size 5 1 u3 XL (u8l X) from HO.out)
      have HB1 : Hid (Below w.heap.size w (wi.drewN nq)) := Lib.hid (Go.Qz.below_drewN HBE.out nq)
      obtain ⟨W1, hW1⟩ : ∃ W1, W1 = wi.drewN nq := ⟨_, rfl⟩
      rw [← hW1] at HO1 HB1 ⊢
      have HO2 := Lib.hid (HO1.out.alloc (.cells #[.int .u8 (g : Nat), .int .u8 (l : Nat)] 5))
      have HB2 : Hid (Below w.heap.size w (W1.alloc (.cells #[.int .u8 (g : Nat), .int .u8 (l : Nat)] 5))) := Lib.hid (HB1.out.alloc HB1.out.size _)
      have HRN : Hid (Rd (W1.alloc (.cells #[.int .u8 (g : Nat), .int .u8 (l : Nat)] 5)) (some ⟨W1.heap.size, 0, none⟩) 2 (fun j => .int .u8 (nth [g, l] j : Nat))) := Lib.hid ((Arr.new W1 5 [.int .u8 (g : Nat), .int .u8 (l : Nat)]).rd _ (fun j hj => by
        have : j = 0 ∨ j = 1 := by simp at hj; omega
        rcases this with rfl | rfl <;> rfl))
      clear hW1
      go_wp2_with (at_builtin; refine wpList_copyTo _ _ 27 w.heap.size 5 (.int .u8 0) 1 _ XL _ _ 2 _ _ rfl rfl rfl rfl Tryd.underlying27 Tryd.infoU8W rfl (fun _ _ => rfl) (by decide) HO2.out HRN.out (by omega) HB2.out.size ?_)
      intro v' w2 hown2 hg2 hb2
      have HO3 := Lib.hid hown2
      have HB3 : Hid (Below w.heap.size w w2) := Lib.hid (HB2.out.trans hb2)
      clear hown2 hg2 hb2
      go_wp2_with fail
      go_roundw
      case rel =>
        refine ⟨q + 3, X ++ [g, l], by have := HQ2.out; omega, by rw [List.length_append, ← HXL.out]; simp; omega, by have := HQ3.out; go_num, Lib.hid ?_, Lib.hid (by rw [List.length_append, ← HXL.out, u8l_two]; exact HO3.out), HB3⟩
        have h9 := HX.out
        rw [HT.out, HQ3.out] at h9
        rw [List.append_assoc]; exact h9
      case measure => simp [intOf]; have := HQ3.out; omega
    · have hl2 : ((q2 : Int) < (m : Int)) = False := by simp; omega
      have hX := HX.out
      rw [tris_end (by have := HQ2.out; have := HM.out; omega), List.append_nil] at hX
      go_wp2_with fail
      go_ret
      exact ⟨_, rfl, by rw [← hX, ← HXL.out]; exact HO.out, HBE.out⟩

theorem range_u8 (l : List Nat) : (List.range l.length).map (fun j => Value.int .u8 (nth l j : Nat)) = u8l l := by
  unfold u8l
  apply List.ext_getElem
  · simp
  · intro i h1 h2
    have h3 : i < l.length := by simpa using h1
    simp [nth_eq h3]
theorem rowRd {l : List Nat} {w : World} {base n : Nat} {v : Value} (h : w.ownsRow base 5 1 v n (u8l l)) : n = l.length ∧ ∃ A c, v = .slice A n c ∧ n ≤ c ∧ Rd w A n (fun j => .int .u8 (nth l j : Nat)) ∧ (∀ a, A = some a → base ≤ a.block) := by
  have hn : n = l.length := by have := h.1; simp [u8l] at this; omega
  obtain ⟨A, c, rfl, hc, _, hr⟩ := Rd.of_own h
  refine ⟨hn, A, c, rfl, hc, hr.congr fun j hj => ?_, ?_⟩
  · rw [hn] at hj
    rw [List.getD_eq_getElem?_getD]
    simp [u8l, hj, nth_eq hj]
  · rintro a rfl
    rcases h.2 with ⟨e, _⟩ | ⟨g, cap, cur, e, hb, _⟩
    · injection e with e; cases e
    · injection e with e; injection e with e; rw [e]; exact hb
/-- The words of a text in X12 whose threes are there. -/
def wx (L : List Nat) : List Nat := [238] ++ tris ((L.take (3 * (L.length / 3))).map xv) ++ [254] ++ asc (L.drop (3 * (L.length / 3)))
def words (m : Nat) (L : List Nat) : List Nat := if m = 0 ∨ L.length < 3 then asc L else wx L
set_option maxRecDepth 100000 in
set_option maxHeartbeats 6400000 in
theorem threes (s : ByteArray) (hs : s.size < 10000) (hb : ∀ j, j < s.size → nth (sb s) j < 128 ∧ xok (nth (sb s) j) = true) (w : World) :
    Calls Tryd.prog 20 #[.int .i64 3, .string s] w (RowPost (words 3 (sb s)) w) := by
  have HB := Lib.hid hb
  clear hb
  go_enter Tryd.func20, Tryd.ntmps20
  go_wp2_with fail
  go_loopw [5, 6, 7, 13] (fun v be mn i wr => ∃ (q b m : Nat), q ≤ s.size ∧ m = 3 * (q / 3) ∧ i = .int .i64 q ∧ be = .int .i64 b ∧ b = m ∧ mn = .int .i64 m ∧ Hid (wr.ownsRow w.heap.size 3 1 v q (i64l (((sb s).take q).map xv))) ∧ Hid (Below w.heap.size w wr)) (fun _ _ _ i _ => s.size - (intOf i).toNat)
  case atStart => exact ⟨0, 0, 0, Nat.zero_le _, rfl, rfl, rfl, rfl, rfl, Lib.hid (World.ownsRow_nil _ _ _ _), Lib.hid (Below.refl _ _)⟩
  case round =>
    obtain ⟨q, b, m, hq, hm, rfl, rfl, rfl, rfl, HO, HBE⟩ := hrel
    obtain ⟨wi, hwi⟩ : ∃ wi, wi = wr := ⟨_, rfl⟩
    rw [← hwi] at HO HBE ⊢
    clear hwi
    have HMM := Lib.hid hm
    clear hm
    by_cases hlt : q < s.size
    · have hq1 : (q : Int) < (s.size : Int) := by omega
      have hq0 : (0 : Int) ≤ (q : Int) := by omega
      have hl : q < (sb s).length := by rw [sb_len]; exact hlt
      have hix := str_at (t := 9) Tryd.underlying9 (P := Tryd.prog) s q hlt
      obtain ⟨hcb, hxo⟩ := HB.out q hlt
      have HTK := take_nth hl
      obtain ⟨c, hc⟩ : ∃ c, c = nth (sb s) q := ⟨_, rfl⟩
      rw [← hc] at hix hcb hxo HTK
      have HX := dmX12 c (by omega) wi
      rw [show xval c = ((xv c : Nat) : Int) by unfold xval; rw [if_pos hxo]] at HX
      have HX := Lib.hid HX
      obtain ⟨x, hx⟩ : ∃ x, x = xv c := ⟨_, rfl⟩
      rw [← hx] at HX
      have HTK := Lib.hid HTK
      have HXE := Lib.hid hx
      clear hc hx hxo
      go_wp2_with fail
      refine HX.out.mono ?_
      rintro e w1 ⟨rfl, rfl⟩
      go_wp2_with (at_builtin; refine wpList_push _ _ 80 w.heap.size 3 (.int .i64 0) 8 _ q _ (.int .i64 (x : Nat)) rfl rfl rfl rfl Tryd.underlying80 Tryd.infoIntW rfl rfl (by decide) HO.out (by omega) HBE.out.size ?_)
      intro v' w2 hown2 hg2 hb2
      obtain ⟨A2, c2, rfl, hc2, _, _⟩ := Rd.of_own hown2
      have HO2 := Lib.hid hown2
      have HB2 : Hid (Below w.heap.size w w2) := Lib.hid (HBE.out.trans hb2)
      have HO3 : Hid (w2.ownsRow w.heap.size 3 1 (.slice A2 (q + 1) c2) (q + 1) (i64l (((sb s).take (q + 1)).map xv))) := Lib.hid (by
        rw [HTK.out, List.map_append, List.map_cons, List.map_nil, i64l_snoc, ← HXE.out, List.map_take]; exact HO2.out)
      obtain ⟨p, hp⟩ : ∃ p, p = q + 1 := ⟨_, rfl⟩
      rw [← hp] at HO3 ⊢
      have hpb : p ≤ s.size := by omega
      have e1 : (q : Int) + 1 = (p : Int) := by omega
      obtain ⟨r, hr⟩ : ∃ r, r = p % 3 := ⟨_, rfl⟩
      have t1 : (p : Int).tmod 3 = (r : Int) := by rw [Int.tmod_eq_emod_of_nonneg (by omega)]; omega
      have t2 : (p : Int) % 3 = (r : Int) := by omega
      have HP := Lib.hid hp
      have hrb : r < 3 := by omega
      have HR := Lib.hid hr
      clear hp hown2 hg2 hb2 HO2 hr hc2
      by_cases hr0 : r = 0
      · subst hr0
        go_wp2_with fail
        go_roundw
        case rel => exact ⟨p, p, p, hpb, by have := HR.out; omega, rfl, rfl, rfl, rfl, HO3, HB2⟩
        case measure => simp [intOf]; have := HP.out; omega
      · have hr1 : ((r : Int) == 0) = false := by simp; omega
        go_wp2_with fail
        go_roundw
        case rel => exact ⟨p, b, b, hpb, by have := HR.out; have := HMM.out; have := HP.out; omega, rfl, rfl, rfl, rfl, HO3, HB2⟩
        case measure => simp [intOf]; have := HP.out; omega
    · obtain rfl : q = s.size := by omega
      have hall : (sb s).take s.size = sb s := List.take_of_length_le (by rw [sb_len]; exact Nat.le_refl _)
      rw [hall] at HO
      by_cases h3 : b = 0
      · subst h3
        have hw : words 3 (sb s) = asc (sb s) := by
          unfold words; rw [if_pos (.inr (by rw [sb_len]; have := HMM.out; omega))]
        have HAW := Lib.hid (asciiWords s (by omega) (fun j hj => (HB.out j hj).1) wi)
        have HW := Lib.hid hw
        clear hw
        go_wp2_with fail
        refine HAW.out.mono ?_
        rintro e w1 ⟨v1, rfl, ho1, hb1⟩
        have HO1 : Hid (w1.ownsRow w.heap.size 5 1 v1 (asc (sb s)).length (u8l (asc (sb s)))) := Lib.hid (own_down ho1 HBE.out.size)
        have HB1 : Hid (Below w.heap.size w w1) := Lib.hid (HBE.out.trans (hb1.mono HBE.out.size))
        clear ho1 hb1
        go_wp2_with fail
        go_ret
        exact ⟨v1, rfl, by rw [HW.out]; exact HO1.out, HB1.out⟩
      · have h31 : ((b : Int) == 0) = false := by simp; omega
        have hbs : b ≤ s.size := by have := HMM.out; omega
        obtain ⟨VB, hVB⟩ : ∃ VB, VB = ((sb s).take b).map xv := ⟨_, rfl⟩
        have hVl : VB.length = b := by rw [hVB, List.length_map, List.length_take, sb_len]; omega
        have hVa : ∀ j, j < b → nth VB j = xv (nth (sb s) j) := fun j hj => by
          rw [hVB]; unfold nth
          rw [List.getD_eq_getElem?_getD, List.getElem?_map, List.getElem?_take, if_pos hj, List.getD_eq_getElem?_getD, List.getElem?_eq_getElem (show j < (sb s).length by rw [sb_len]; omega)]; rfl
        have hV40 : ∀ j, j < b → nth VB j < 40 := fun j hj => by
          rw [hVa j hj]; obtain ⟨h1, h2⟩ := HB.out j (by omega); exact (xv_ok _ h1 h2).1
        obtain ⟨A5, c5, rfl, hc5, _, hr5⟩ := Rd.of_own HO.out
        obtain ⟨g5, o5, rfl, hg5, hcell⟩ := hr5 (by omega)
        have hrv : Rd wi (some ⟨g5, o5, none⟩) b (fun j => .int .i64 (nth VB j : Nat)) := fun _ => ⟨g5, o5, rfl, hg5, fun j hj => by
          have h1 := hcell j (by omega)
          dsimp only at h1 ⊢
          rw [h1, hVa j hj]
          have hjl : j < (sb s).length := by rw [sb_len]; omega
          have : j < s.size := by omega
          simp [i64l, List.getD_eq_getElem?_getD, hjl, nth_eq hjl]⟩
        have hbc : (b : Int) ≤ (c5 : Int) := by omega
        have hb0 : (0 : Int) ≤ (b : Int) := by omega
        have hbsz : (b : Int) ≤ (s.size : Int) := by omega
        obtain ⟨W1, hW1⟩ : ∃ W1, W1 = wi.alloc (.cells #[.int .u8 238] 5) := ⟨_, rfl⟩
        have HB1 : Hid (Below w.heap.size w W1) := Lib.hid (by rw [hW1]; exact HBE.out.alloc HBE.out.size _)
        have HOL : Hid (W1.ownsRow w.heap.size 5 1 (.slice (some ⟨wi.heap.size, 0, none⟩) 1 1) 1 [.int .u8 238]) := Lib.hid (by rw [hW1]; exact own_lit _ HBE.out.size)
        have HTR := Lib.hid (triples VB b c5 hVl.symm (by omega) hV40 (some ⟨g5, o5, none⟩) W1 (by rw [hW1]; exact hrv.alloc _))
        obtain ⟨H5, hH5⟩ : ∃ H5, H5 = wi.heap.size := ⟨_, rfl⟩
        rw [← hH5] at HOL
        obtain ⟨L2, hL2⟩ : ∃ L2, L2 = tris VB := ⟨_, rfl⟩
        have hL2l := tris_len _ VB (Nat.le_refl _)
        rw [← hL2] at HTR hL2l
        rw [hVl] at hL2l
        have HL2 := Lib.hid hL2
        have HVB := Lib.hid hVB
        have HAL := Lib.hid (asciiWords (s.extract b s.size) (by rw [ByteArray.size_extract]; omega) (fun j hj => by
          rw [ByteArray.size_extract] at hj
          rw [sb_drop]; unfold nth
          rw [List.getD_eq_getElem?_getD, List.getElem?_drop]
          have := (HB.out (b + j) (by omega)).1
          unfold nth at this
          rwa [List.getD_eq_getElem?_getD] at this))
        have HTX := Lib.hid (sb_drop s b)
        obtain ⟨L4, hL4⟩ : ∃ L4, L4 = asc (sb (s.extract b s.size)) := ⟨_, rfl⟩
        have hL4l := asc_len _ (sb (s.extract b s.size)) (Nat.le_refl _)
        rw [← hL4] at HAL hL4l
        rw [HTX.out, List.length_drop, sb_len] at hL4l
        have HL4 := Lib.hid hL4
        have HWW : Hid (words 3 (sb s) = [238] ++ L2 ++ [254] ++ L4) := Lib.hid (by
          unfold words
          rw [if_neg (by rw [sb_len]; have := HMM.out; omega)]
          unfold wx
          rw [sb_len, ← HMM.out, ← hVB, ← hL2, ← HTX.out, ← hL4])
        clear hr5 hcell hrv hVa hV40 hVl hVB hL2 hL4 HO HBE hall
        go_wp2_with fail
        rw [← hW1, ← hH5]
        refine HTR.out.mono ?_
        rintro e w2 ⟨v2, rfl, ho2, hb2⟩
        obtain ⟨_, A2, c2, rfl, hc2, hr2, _⟩ := rowRd ho2
        have HO2 := Lib.hid (own_below HOL.out hb2)
        have HB2 : Hid (Below w.heap.size w w2) := Lib.hid (HB1.out.trans (hb2.mono HB1.out.size))
        have HR2 := Lib.hid hr2
        obtain ⟨n2, hn2⟩ : ∃ n, n = L2.length := ⟨_, rfl⟩
        rw [← hn2] at HR2 hL2l
        rw [← hn2]
        have HN2 := Lib.hid hn2
        clear ho2 hb2 hr2 hn2 HTR HOL HB1 hc2 hW1 hH5
        go_wp2_with (at_builtin; refine wpList_copyTo _ _ 27 w.heap.size 5 (.int .u8 0) 1 _ 1 _ A2 n2 _ _ rfl rfl rfl rfl Tryd.underlying27 Tryd.infoU8W rfl (fun _ _ => rfl) (by decide) HO2.out HR2.out (by omega) HB2.out.size ?_)
        intro v3 w3 hown3 hg3 hb3
        have HO3 : Hid (w3.ownsRow w.heap.size 5 1 v3 (1 + n2) (u8l ([238] ++ L2))) := Lib.hid (by
          have e : u8l ([238] ++ L2) = [Value.int .u8 238] ++ (List.range n2).map (fun j => Value.int .u8 (nth L2 j : Nat)) := by
            rw [HN2.out, range_u8]; simp [u8l]
          rw [e]; exact hown3)
        have HB3 : Hid (Below w.heap.size w w3) := Lib.hid (HB2.out.trans hb3)
        clear hown3 hg3 hb3 HO2 HR2 HB2
        go_wp2_with fail
        go_region_law (first | (refine step_copyAny (W := w3.drew.alloc (.cells #[.int .u8 254] 5)) _ _ 27 w.heap.size 5 (.int .u8 0) 1 v3 (1 + n2) _ (some ⟨w3.heap.size, 0, none⟩) 1 1 (fun j => .int .u8 (nth [254] j : Nat)) rfl rfl rfl rfl Tryd.underlying27 Tryd.infoU8W rfl (fun _ _ => rfl) (by decide) (HO3.out.drew.alloc _) ((Arr.new w3.drew 5 [.int .u8 254]).rd (fun j => .int .u8 (nth [254] j : Nat)) (fun j hj => by obtain rfl : j = 0 := (by simpa using hj); rfl)) (by omega) (HB3.out.drew.alloc HB3.out.size (.cells #[.int .u8 254] 5)).size ?_; intro v4 w4 hown4 hg4 hb4) | (refine step_copyAny (W := wc) _ _ 27 w.heap.size 5 (.int .u8 0) 1 v4 (1 + n2 + 1) _ AC L4.length cc _ rfl rfl rfl rfl Tryd.underlying27 Tryd.infoU8W rfl (fun _ _ => rfl) (by decide) (own_below hown4 hbc) hrc (by omega) (Nat.le_trans (Nat.le_trans (HB3.out.drew.alloc HB3.out.size (.cells #[.int .u8 254] 5)).size hb4.size) hbc.size) ?_; intro v5 w5 hown5 hg5 hb5) | (go_simp; go_at_call 17; refine (HAL.out _).mono ?_; rintro e wc ⟨vc, rfl, hoc, hbc⟩; obtain ⟨hLc, AC, cc, rfl, hcc, hrc, hac⟩ := rowRd hoc))
        have HO5 : Hid (w5.ownsRow w.heap.size 5 1 v5 ([238] ++ L2 ++ [254] ++ L4).length (u8l ([238] ++ L2 ++ [254] ++ L4))) := Lib.hid (by
          have e : u8l ([238] ++ L2 ++ [254] ++ L4) = u8l ([238] ++ L2) ++ (List.range 1).map (fun j => Value.int .u8 (nth [254] j : Nat)) ++ (List.range L4.length).map (fun j => Value.int .u8 (nth L4 j : Nat)) := by
            rw [range_u8]; simp only [u8l, List.map_append]; rfl
          have e2 : ([238] ++ L2 ++ [254] ++ L4).length = 1 + n2 + 1 + L4.length := by rw [HN2.out]; simp only [List.length_append, List.length_cons, List.length_nil]
          rw [e, e2]
          exact hown5)
        have HB5 : Hid (Below w.heap.size w w5) := Lib.hid ((((HB3.out.drew.alloc HB3.out.size _).trans hb4).trans (hbc.mono (Nat.le_trans (HB3.out.drew.alloc HB3.out.size _).size hb4.size))).trans hb5)
        clear hown5 hg5 hb5 hown4 hg4 hb4 hrc hbc
        go_wp2_with fail
        go_ret
        exact ⟨v5, rfl, by rw [HWW.out]; exact HO5.out, HB5.out⟩
end Go.Proofs.YthnepajhiialpaaDoor
