/-
  Data Matrix words of the reference, walked: digits, X12, modes, ASCII words. No condition beyond the bounds that each theorem states.
-/
import Derived.Test.YthnepajhiialpaaDoorDAP
import Derived.Test.YthnepajhiialpaaDoorSTR
import Derived.Test.YthnepajhiialpaaDoorRows
import Derived.BigQuiet
import Derived.Deep.RegionLaw
namespace Go.Proofs.YthnepajhiialpaaDoor
open Go.RowKit Go.Qz Go.Qz.DW
set_option linter.unusedVariables false

theorem Tryd.infoU8W : (Tryd.prog.info? 5).map (fun i => (i.zero, i.size, i.bytes)) = some (some (.int .u8 0), 1, 1) := by kernel_rfl
theorem Tryd.infoIntW : (Tryd.prog.info? 3).map (fun i => (i.zero, i.size, i.bytes)) = some (some (.int .i64 0), 1, 8) := by kernel_rfl
def u8l (l : List Nat) : List Value := l.map fun x : Nat => Value.int .u8 x
def i64l (l : List Nat) : List Value := l.map fun x : Nat => Value.int .i64 x
set_option maxRecDepth 100000 in
theorem dmDigit (c : Nat) (hc : c < 256) (w : World) : Calls Tryd.prog 40 #[.int .u8 c] w fun e w' => e = .returned (.bool (dig c)) ∧ w = w' := by
  have h1 : dig c = (decide ((48 : Int) ≤ (c : Int)) && decide ((c : Int) ≤ 57)) := by
    unfold dig
    congr 1 <;> (apply Bool.eq_iff_iff.2; simp <;> omega)
  by_cases h : (48 : Int) ≤ (c : Int)
  · have h2 : decide ((48 : Int) ≤ (c : Int)) = true := by simpa using h
    rw [h2, Bool.true_and] at h1
    rw [h1]
    clear h1
    go_enter Tryd.func40, Tryd.ntmps40
    go_wp2_with fail
    go_ret
    exact ⟨rfl, rfl⟩
  · have h2 : decide ((48 : Int) ≤ (c : Int)) = false := by simpa using h
    rw [h2, Bool.false_and] at h1
    rw [h1]
    have h3 : ((48 : Int) ≤ (c : Int)) = False := by simpa using h
    clear h1 h
    go_enter Tryd.func40, Tryd.ntmps40
    go_wp2_with fail
    go_ret
    exact ⟨rfl, rfl⟩
def xval (c : Nat) : Int := if xok c then (xv c : Nat) else -1
set_option maxRecDepth 100000 in
set_option maxHeartbeats 1600000 in
theorem dmX12 (c : Nat) (hc : c < 256) (w : World) : Calls Tryd.prog 16 #[.int .u8 c] w fun e w' => e = .returned (.int .i64 (xval c)) ∧ w = w' := by
  have HD := Lib.hid (dmDigit c hc w)
  by_cases h0 : c = 13 ∨ c = 42 ∨ c = 62 ∨ c = 32
  · clear HD
    rcases h0 with rfl | rfl | rfl | rfl <;>
    · go_enter Tryd.func16, Tryd.ntmps16
      go_wp2_with fail
      go_ret
      exact ⟨rfl, rfl⟩
  have n1 : ((c : Int) == 13) = false := by simp; omega
  have n2 : ((c : Int) == 42) = false := by simp; omega
  have n3 : ((c : Int) == 62) = false := by simp; omega
  have n4 : ((c : Int) == 32) = false := by simp; omega
  by_cases h1 : dig c = true
  · have hx : xval c = ((c - 44 : Nat) : Int) := by
      have h2 := h1
      unfold dig at h2
      simp only [Bool.and_eq_true, decide_eq_true_eq] at h2
      unfold xval xok xv
      rw [h1, Bool.or_true, Bool.true_or, if_pos rfl, if_neg (by omega), if_neg (by omega), if_neg (by omega), if_neg (by omega), if_pos (by omega)]
    have h3 : 48 ≤ c ∧ c ≤ 57 := by simpa [dig] using h1
    rw [hx]
    obtain ⟨x, hx2⟩ : ∃ x, x = c - 48 := ⟨_, rfl⟩
    obtain ⟨y, hy⟩ : ∃ y, y = c - 44 := ⟨_, rfl⟩
    rw [h1] at HD
    rw [← hy]
    have e1 : (c : Int) - 48 = (x : Int) := by omega
    have e2 : (x : Int) + 4 = (y : Int) := by omega
    have hxb : x < 256 := by omega
    clear hx hx2 hy h1 h0
    go_enter Tryd.func16, Tryd.ntmps16
    go_wp2_with fail
    refine HD.out.mono ?_
    rintro e w1 ⟨rfl, rfl⟩
    go_wp2_with fail
    go_ret
    exact ⟨rfl, rfl⟩
  · rw [Bool.not_eq_true] at h1
    rw [h1] at HD
    have h5 : ¬ (48 ≤ c ∧ c ≤ 57) := by
      intro h; rw [show dig c = true by simp [dig]; omega] at h1; cases h1
    by_cases h6 : (65 : Int) ≤ (c : Int)
    · by_cases h7 : (c : Int) ≤ 90
      · have hx : xval c = ((c - 51 : Nat) : Int) := by
          have : xok c = true := by
            unfold xok
            rw [show decide (65 ≤ c) = true by simp; omega, show decide (c ≤ 90) = true by simp; omega]; simp
          unfold xval xv
          rw [this, if_pos rfl, if_neg (by omega), if_neg (by omega), if_neg (by omega), if_neg (by omega), if_neg (by omega)]
        rw [hx]
        obtain ⟨x, hx2⟩ : ∃ x, x = c - 65 := ⟨_, rfl⟩
        obtain ⟨y, hy⟩ : ∃ y, y = c - 51 := ⟨_, rfl⟩
        rw [← hy]
        have e1 : (c : Int) - 65 = (x : Int) := by omega
        have e2 : (x : Int) + 14 = (y : Int) := by omega
        have hxb : x < 256 := by omega
        clear hx hx2 hy h1 h0 h5
        go_enter Tryd.func16, Tryd.ntmps16
        go_wp2_with fail
        refine HD.out.mono ?_
        rintro e w1 ⟨rfl, rfl⟩
        go_wp2_with fail
        go_ret
        exact ⟨rfl, rfl⟩
      · have hx : xval c = -1 := by
          have : xok c = false := by
            unfold xok
            rw [h1, show decide (c ≤ 90) = false by simp; omega]; simp; omega
          unfold xval
          rw [this]; rfl
        rw [hx]
        have h8 : ((c : Int) ≤ 90) = False := by simpa using h7
        clear hx h1 h0 h5 h7
        go_enter Tryd.func16, Tryd.ntmps16
        go_wp2_with fail
        refine HD.out.mono ?_
        rintro e w1 ⟨rfl, rfl⟩
        go_wp2_with fail
        go_ret
        exact ⟨rfl, rfl⟩
    · have hx : xval c = -1 := by
        have : xok c = false := by
          unfold xok
          rw [h1, show decide (65 ≤ c) = false by simp; omega]; simp; omega
        unfold xval
        rw [this]; rfl
      rw [hx]
      have h8 : ((65 : Int) ≤ (c : Int)) = False := by simpa using h6
      clear hx h1 h0 h5 h6
      go_enter Tryd.func16, Tryd.ntmps16
      go_wp2_with fail
      refine HD.out.mono ?_
      rintro e w1 ⟨rfl, rfl⟩
      go_wp2_with fail
      go_ret
      exact ⟨rfl, rfl⟩

def ModePost (m : Nat) (s : ByteArray) (w : World) (e : Ending) (w' : World) : Prop :=
  ∃ r, e = .returned (.bool r) ∧ (r = true → ∀ j, j < s.size → nth (sb s) j < 128 ∧ (m = 3 → xok (nth (sb s) j) = true)) ∧ w = w'
set_option maxRecDepth 100000 in
set_option maxHeartbeats 3200000 in
theorem inMode (m : Nat) (hm : m = 0 ∨ m = 3) (s : ByteArray) (hs : s.size < 4294967296) (w : World) :
    Calls Tryd.prog 11 #[.int .i64 m, .string s] w (ModePost m s w) := by
  have m4 : ((m : Int) == 4) = false := by simp; omega
  have m0 : (0 : Int) ≤ (m : Int) := by omega
  have m5 : (m : Int) ≤ 5 := by omega
  have HM := Lib.hid hm
  clear hm
  go_enter Tryd.func11, Tryd.ntmps11
  go_wp2_with fail
  go_loopw [9] (fun i wr => ∃ q : Nat, q ≤ s.size ∧ i = .int .i64 q ∧ Hid (∀ j, j < q → nth (sb s) j < 128 ∧ (m = 3 → xok (nth (sb s) j) = true)) ∧ w = wr) (fun i _ => s.size - (intOf i).toNat)
  case atStart => exact ⟨0, Nat.zero_le _, rfl, Lib.hid (fun j hj => absurd hj (by omega)), rfl⟩
  case round =>
    obtain ⟨q, hq, rfl, HA, rfl⟩ := hrel
    by_cases hlt : q < s.size
    · have hq1 : (q : Int) < (s.size : Int) := by omega
      have hq0 : (0 : Int) ≤ (q : Int) := by omega
      have hix := str_at (t := 9) Tryd.underlying9 (P := Tryd.prog) s q hlt
      have hcb := sb_at s q
      obtain ⟨c, hc⟩ : ∃ c, c = nth (sb s) q := ⟨_, rfl⟩
      rw [← hc] at hix hcb
      have HC := Lib.hid hc
      clear hc
      by_cases hc7 : (127 : Int) < (c : Int)
      · have d7 : decide ((127 : Int) < (c : Int)) = true := by simpa using hc7
        go_wp2_with fail
        go_ret
        exact ⟨false, rfl, (fun h => by cases h), rfl⟩
      · have d7 : decide ((127 : Int) < (c : Int)) = false := by simpa using hc7
        have d7' : ((127 : Int) < (c : Int)) = False := by simpa using hc7
        have HC7 := Lib.hid hc7
        clear hc7
        by_cases h3 : m = 3
        · have HX := Lib.hid (dmX12 c hcb w)
          have m3 : ((m : Int) == 3) = true := by simp; omega
          have H3 := Lib.hid h3
          clear h3
          by_cases hx : xval c < 0
          · have dx : decide (xval c < 0) = true := by simpa using hx
            go_wp2_with fail
            refine HX.out.mono ?_
            rintro e w1 ⟨rfl, rfl⟩
            go_wp2_with fail
            go_ret
            exact ⟨false, rfl, (fun h => by cases h), rfl⟩
          · have dx : decide (xval c < 0) = false := by simpa using hx
            have dx' : (xval c < 0) = False := by simpa using hx
            have HXX := Lib.hid hx
            clear hx
            go_wp2_with fail
            refine HX.out.mono ?_
            rintro e w1 ⟨rfl, rfl⟩
            go_wp2_with fail
            go_roundw
            case rel =>
              refine ⟨q + 1, by omega, by go_num, Lib.hid (fun j hj => ?_), trivial⟩
              by_cases hjq : j < q
              · exact HA.out j hjq
              · obtain rfl : j = q := by omega
                rw [← HC.out]
                refine ⟨by have := HC7.out; omega, fun _ => ?_⟩
                have := HXX.out
                unfold xval at this
                by_cases hk : xok c = true
                · exact hk
                · rw [if_neg hk] at this; omega
            case measure => simp [intOf]; omega
        · have m3 : ((m : Int) == 3) = false := by simp; omega
          have H3 := Lib.hid h3
          clear h3
          go_wp2_with fail
          go_roundw
          case rel =>
            refine ⟨q + 1, by omega, by go_num, Lib.hid (fun j hj => ?_), trivial⟩
            by_cases hjq : j < q
            · exact HA.out j hjq
            · obtain rfl : j = q := by omega
              rw [← HC.out]
              exact ⟨by have := HC7.out; omega, fun h => absurd h H3.out⟩
          case measure => simp [intOf]; omega
    · obtain rfl : q = s.size := by omega
      go_wp2_with fail
      go_ret
      exact ⟨true, by simp, fun _ => HA.out, rfl⟩

def RowPost (l : List Nat) (w : World) (e : Ending) (w' : World) : Prop :=
  ∃ v, e = .returned v ∧ w'.ownsRow w.heap.size 5 1 v l.length (u8l l) ∧ Below w.heap.size w w'
theorem u8l_snoc (l : List Nat) (x : Nat) : u8l (l ++ [x]) = u8l l ++ [.int .u8 (x : Nat)] := by simp [u8l]
theorem i64l_snoc (l : List Nat) (x : Nat) : i64l (l ++ [x]) = i64l l ++ [.int .i64 (x : Nat)] := by simp [i64l]
set_option maxRecDepth 100000 in
set_option maxHeartbeats 3200000 in
theorem asciiWords (s : ByteArray) (hs : s.size < 1000000) (hb : ∀ j, j < s.size → nth (sb s) j < 128) (w : World) :
    Calls Tryd.prog 17 #[.string s] w (RowPost (asc (sb s)) w) := by
  have HB := Lib.hid hb
  clear hb
  go_enter Tryd.func17, Tryd.ntmps17
  go_wp2_with fail
  go_loopw [3, 4] (fun v i wr => ∃ (q : Nat) (X : List Nat), q ≤ s.size ∧ X.length ≤ q ∧ i = .int .i64 q ∧ Hid (X ++ asc ((sb s).drop q) = asc (sb s)) ∧ Hid (wr.ownsRow w.heap.size 5 1 v X.length (u8l X)) ∧ Hid (Below w.heap.size w wr)) (fun _ i _ => s.size - (intOf i).toNat)
  case atStart => exact ⟨0, [], Nat.zero_le _, Nat.le_refl _, rfl, Lib.hid rfl, Lib.hid (World.ownsRow_nil _ _ _ _), Lib.hid (Below.refl _ _)⟩
  case round =>
    obtain ⟨q, X, hq, hXq, rfl, HX, HO, HBE⟩ := hrel
    obtain ⟨wi, hwi⟩ : ∃ wi, wi = wr := ⟨_, rfl⟩
    rw [← hwi] at HO HBE ⊢
    clear hwi
    obtain ⟨XL, hXL⟩ : ∃ x, x = X.length := ⟨_, rfl⟩
    rw [← hXL] at HO hXq
    have HXL := Lib.hid hXL
    clear hXL
    by_cases hlt : q < s.size
    · have hq1 : (q : Int) < (s.size : Int) := by omega
      have hq0 : (0 : Int) ≤ (q : Int) := by omega
      have hl : q < (sb s).length := by rw [sb_len]; exact hlt
      have hix := str_at (t := 9) Tryd.underlying9 (P := Tryd.prog) s q hlt
      have hcb := HB.out q hlt
      have ho := asc_dropOne hl
      have ht := fun h => asc_dropTwo (L := sb s) (i := q) h
      obtain ⟨c, hc⟩ : ∃ c, c = nth (sb s) q := ⟨_, rfl⟩
      rw [← hc] at hix hcb ho ht
      obtain ⟨c1, hc1⟩ : ∃ c1, c1 = c + 1 := ⟨_, rfl⟩
      have e1 : (c : Int) + 1 = (c1 : Int) := by omega
      rw [← hc1] at ho
      have hc1b : c1 < 256 := by omega
      obtain ⟨q1, hq1'⟩ : ∃ q1, q1 = q + 1 := ⟨_, rfl⟩
      have e2 : (q : Int) + 1 = (q1 : Int) := by omega
      rw [← hq1'] at ho ht
      have HQ1 := Lib.hid hq1'
      have HDC := Lib.hid (fun W => dmDigit c (by omega) W)
      have HOO := Lib.hid ho
      have HTT := Lib.hid ht
      have HC1 := Lib.hid hc1
      have hbs := Lib.hid HBE.out.size
      clear hc ho ht hc1 hq1'
      by_cases hn1 : q1 < s.size
      · have hn2 : (q1 : Int) < (s.size : Int) := by omega
        have dn : decide ((q1 : Int) < (s.size : Int)) = true := by simpa using hn2
        have hq10 : (0 : Int) ≤ (q1 : Int) := by omega
        have hl1 : q1 < (sb s).length := by rw [sb_len]; exact hn1
        have hix1 := str_at (t := 9) Tryd.underlying9 (P := Tryd.prog) s q1 hn1
        have hdb := HB.out q1 hn1
        obtain ⟨d, hd⟩ : ∃ d, d = nth (sb s) q1 := ⟨_, rfl⟩
        rw [← hd] at hix1 hdb HOO HTT
        have HDD := Lib.hid (fun W => dmDigit d (by omega) W)
        clear hd
        by_cases hdc : dig c = true
        · rw [hdc] at HDC
          by_cases hdd : dig d = true
          · rw [hdd] at HDD
            have hcr : 48 ≤ c ∧ c ≤ 57 := by simpa [dig] using hdc
            have hdr : 48 ≤ d ∧ d ≤ 57 := by simpa [dig] using hdd
            have HTW := Lib.hid (HTT.out hl1 (by rw [hdc, hdd]; rfl))
            obtain ⟨q2, hq2⟩ : ∃ x, x = q + 2 := ⟨_, rfl⟩
            have e3 : (q1 : Int) + 1 = (q2 : Int) := by have := HQ1.out; omega
            obtain ⟨a, ha⟩ : ∃ a, a = c - 48 := ⟨_, rfl⟩
            obtain ⟨a2, ha2⟩ : ∃ x, x = 10 * a := ⟨_, rfl⟩
            obtain ⟨a3, ha3⟩ : ∃ x, x = 130 + a2 := ⟨_, rfl⟩
            obtain ⟨a4, ha4⟩ : ∃ x, x = (a3 + d) % 256 := ⟨_, rfl⟩
            obtain ⟨f, hf⟩ : ∃ f, f = 130 + 10 * (c - 48) + (d - 48) := ⟨_, rfl⟩
            rw [← hf, ← hq2] at HTW
            have w1 : IntKind.u8.wrap ((c : Int) - 48) = (a : Int) := by rw [IntKind.wrap_u8]; omega
            have w2 : IntKind.u8.wrap (10 * (a : Int)) = (a2 : Int) := by rw [IntKind.wrap_u8]; omega
            have w3 : IntKind.u8.wrap (130 + (a2 : Int)) = (a3 : Int) := by rw [IntKind.wrap_u8]; omega
            have w4 : IntKind.u8.wrap ((a3 : Int) + (d : Int)) = (a4 : Int) := by rw [IntKind.wrap_u8]; omega
            have w5 : IntKind.u8.wrap ((a4 : Int) - 48) = (f : Int) := by rw [IntKind.wrap_u8]; omega
            have hq2b : q2 ≤ s.size := by omega
            have HQ2 := Lib.hid hq2
            clear hcr hdr ha ha2 ha3 ha4 hf hq2 hdc hdd HOO HTT
            go_wp2_with fail
            refine HDC.out _ |>.mono ?_
            rintro e w1 ⟨rfl, rfl⟩
            go_wp2_with fail
            refine HDD.out _ |>.mono ?_
            rintro e w1 ⟨rfl, rfl⟩
            go_wp2_with fail
            have w6 : IntKind.i64.wrap (q1 : Int) = (q1 : Int) := by rw [IntKind.wrap_i64]; omega
            go_region_law (refine step_push (W := wi.drew) _ _ 27 w.heap.size 5 (.int .u8 0) 1 _ XL _ (.int .u8 (f : Nat)) rfl rfl rfl rfl Tryd.underlying27 Tryd.infoU8W rfl rfl (by decide) HO.out.drew (by omega) HBE.out.size ?_; intro v' w2 hown2 hg2 hb2)
            all_goals
              have HO2 := Lib.hid hown2
              have HB2 : Hid (Below w.heap.size w w2) := Lib.hid (HBE.out.drew.trans hb2)
              clear hown2 hg2 hb2
              go_wp2_with fail
              go_roundw
              case rel =>
                refine ⟨q + 2, X ++ [f], by omega, by rw [List.length_append, ← HXL.out]; simp; omega, by have := HQ2.out; go_num, Lib.hid ?_, Lib.hid (by rw [List.length_append, u8l_snoc, ← HXL.out]; exact HO2.out), HB2⟩
                have h9 := HX.out
                rw [HTW.out, HQ2.out] at h9
                rw [List.append_assoc]; exact h9
              case measure => simp [intOf]; omega
          · rw [Bool.not_eq_true] at hdd
            rw [hdd] at HDD
            have HNO := Lib.hid (show q + 1 < (sb s).length → (dig c && dig d) = false from fun _ => by rw [hdd, Bool.and_false])
            have HOO2 := Lib.hid (show asc ((sb s).drop q) = c1 :: asc ((sb s).drop q1) from HOO.out (fun _ => by rw [hdd, Bool.and_false]))
            clear hdd hdc HOO HTT
            go_wp2_with fail
            refine HDC.out _ |>.mono ?_
            rintro e w1 ⟨rfl, rfl⟩
            go_wp2_with fail
            refine HDD.out _ |>.mono ?_
            rintro e w1 ⟨rfl, rfl⟩
            go_wp2_with (at_builtin; refine wpList_push _ _ 27 w.heap.size 5 (.int .u8 0) 1 _ XL _ (.int .u8 (c1 : Nat)) rfl rfl rfl rfl Tryd.underlying27 Tryd.infoU8W rfl rfl (by decide) HO.out (by omega) HBE.out.size ?_)
            intro v' w2 hown2 hg2 hb2
            clear hg2
            have HO2 := Lib.hid hown2
            have HB2 : Hid (Below w.heap.size w w2) := Lib.hid (HBE.out.trans hb2)
            clear hown2 hb2
            go_wp2_with fail
            go_roundw
            case rel =>
              refine ⟨q + 1, X ++ [c1], by omega, by rw [List.length_append, ← HXL.out]; simp; omega, by go_num, Lib.hid ?_, Lib.hid (by rw [List.length_append, u8l_snoc, ← HXL.out]; exact HO2.out), HB2⟩
              have h9 := HX.out
              rw [HOO2.out, HQ1.out] at h9
              rw [List.append_assoc]; exact h9
            case measure => simp [intOf]; omega
        · rw [Bool.not_eq_true] at hdc
          rw [hdc] at HDC
          have HOO2 := Lib.hid (show asc ((sb s).drop q) = c1 :: asc ((sb s).drop q1) from HOO.out (fun _ => by rw [hdc, Bool.false_and]))
          clear hdc HOO HTT HDD
          go_wp2_with fail
          refine HDC.out _ |>.mono ?_
          rintro e w1 ⟨rfl, rfl⟩
          go_wp2_with (at_builtin; refine wpList_push _ _ 27 w.heap.size 5 (.int .u8 0) 1 _ XL _ (.int .u8 (c1 : Nat)) rfl rfl rfl rfl Tryd.underlying27 Tryd.infoU8W rfl rfl (by decide) HO.out (by omega) HBE.out.size ?_)
          intro v' w2 hown2 hg2 hb2
          clear hg2
          have HO2 := Lib.hid hown2
          have HB2 : Hid (Below w.heap.size w w2) := Lib.hid (HBE.out.trans hb2)
          clear hown2 hb2
          go_wp2_with fail
          go_roundw
          case rel =>
            refine ⟨q + 1, X ++ [c1], by omega, by rw [List.length_append, ← HXL.out]; simp; omega, by go_num, Lib.hid ?_, Lib.hid (by rw [List.length_append, u8l_snoc, ← HXL.out]; exact HO2.out), HB2⟩
            have h9 := HX.out
            rw [HOO2.out, HQ1.out] at h9
            rw [List.append_assoc]; exact h9
          case measure => simp [intOf]; omega
      · have hn2 : ((q1 : Int) < (s.size : Int)) = False := by simp; omega
        have dn : decide ((q1 : Int) < (s.size : Int)) = false := by simp; omega
        have HOO2 := Lib.hid (show asc ((sb s).drop q) = c1 :: asc ((sb s).drop q1) from HOO.out (fun h => absurd h (by rw [sb_len]; exact hn1)))
        clear hn1 HOO HTT HDC
        go_wp2_with (at_builtin; refine wpList_push _ _ 27 w.heap.size 5 (.int .u8 0) 1 _ XL _ (.int .u8 (c1 : Nat)) rfl rfl rfl rfl Tryd.underlying27 Tryd.infoU8W rfl rfl (by decide) HO.out (by omega) HBE.out.size ?_)
        intro v' w2 hown2 hg2 hb2
        clear hg2
        have HO2 := Lib.hid hown2
        have HB2 : Hid (Below w.heap.size w w2) := Lib.hid (HBE.out.trans hb2)
        clear hown2 hb2
        go_wp2_with fail
        go_roundw
        case rel =>
          refine ⟨q + 1, X ++ [c1], by omega, by rw [List.length_append, ← HXL.out]; simp; omega, by go_num, Lib.hid ?_, Lib.hid (by rw [List.length_append, u8l_snoc, ← HXL.out]; exact HO2.out), HB2⟩
          have h9 := HX.out
          rw [HOO2.out, HQ1.out] at h9
          rw [List.append_assoc]; exact h9
        case measure => simp [intOf]; omega
    · obtain rfl : q = s.size := by omega
      have hX := HX.out
      rw [List.drop_eq_nil_of_le (by rw [sb_len]; exact Nat.le_refl _), show asc [] = [] from rfl, List.append_nil] at hX
      go_wp2_with fail
      go_ret
      exact ⟨_, rfl, by rw [← hX, ← HXL.out]; exact HO.out, HBE.out⟩
end Go.Proofs.YthnepajhiialpaaDoor
