/-
  Which texts are held: dmShape, DMPlain, DMClear, dmOwn, walked. No condition beyond the bounds that each theorem states.
-/
import Derived.Test.YtcadknfcahmdcaaGreatDXO
import Derived.Test.YtcadknfcahmdcaaGreatDAW
namespace Go.Proofs.YtcadknfcahmdcaaGreat
open Go.RowKit Go.Qz Go.Qz.DF
open Go.Qz.DV hiding val run part
set_option linter.unusedVariables false

set_option maxRecDepth 100000 in
theorem dmShape (x : Int) (w : World) : Calls Tryz.prog 4 #[.int .i64 x] w fun e w' => e = .returned (.bool (decide (0 ≤ x ∧ x ≤ 2))) ∧ w = w' := by
  by_cases h0 : 0 ≤ x
  · by_cases h2 : x ≤ 2
    · have d0 : decide (0 ≤ x) = true := by simpa using h0
      have d2 : decide (x ≤ 2) = true := by simpa using h2
      go_enter Tryz.func4, Tryz.ntmps4
      go_wp2_with fail
      go_ret
      exact ⟨by rw [decide_eq_true ⟨h0, h2⟩]; rfl, rfl⟩
    · have d0 : decide (0 ≤ x) = true := by simpa using h0
      have d2 : decide (x ≤ 2) = false := by simpa using h2
      have H2 := Lib.hid h2
      clear h2
      go_enter Tryz.func4, Tryz.ntmps4
      go_wp2_with fail
      go_ret
      exact ⟨rfl, rfl⟩
  · have d0 : decide (0 ≤ x) = false := by simpa using h0
    have H0 := Lib.hid h0
    clear h0
    go_enter Tryz.func4, Tryz.ntmps4
    go_wp2_with fail
    go_ret
    exact ⟨rfl, rfl⟩
def PlainPost (s : ByteArray) (w : World) (e : Ending) (w' : World) : Prop := ∃ r, e = .returned (.bool r) ∧ (r = true → ∀ j, j < s.size → nth (sb s) j < 128) ∧ w = w'
set_option maxRecDepth 100000 in
theorem dmPlain (s : ByteArray) (hs : s.size < 4294967296) (w : World) : Calls Tryz.prog 14 #[.string s] w (PlainPost s w) := by
  go_enter Tryz.func14, Tryz.ntmps14
  go_wp2_with fail
  go_loopw [6] (fun i wr => ∃ q : Nat, q ≤ s.size ∧ i = .int .i64 q ∧ Hid (∀ j, j < q → nth (sb s) j < 128) ∧ w = wr) (fun i _ => s.size - (intOf i).toNat)
  case atStart => exact ⟨0, Nat.zero_le _, rfl, Lib.hid (fun j hj => absurd hj (by omega)), rfl⟩
  case round =>
    obtain ⟨q, hq, rfl, HA, rfl⟩ := hrel
    by_cases hlt : q < s.size
    · have hq1 : (q : Int) < (s.size : Int) := by omega
      have hq0 : (0 : Int) ≤ (q : Int) := by omega
      have hix := str_at (t := 9) Tryz.underlying9 (P := Tryz.prog) s q hlt
      have hcb := sb_at s q
      obtain ⟨c, hc⟩ : ∃ c, c = nth (sb s) q := ⟨_, rfl⟩
      rw [← hc] at hix hcb
      have HC := Lib.hid hc
      clear hc
      by_cases hc7 : (127 : Int) < (c : Int)
      · have d7 : decide ((127 : Int) < (c : Int)) = true := by simpa using hc7
        go_wp2_with fail
        go_ret
        exact ⟨false, rfl, (fun h => by cases h), rfl⟩
      · have d7 : decide ((127 : Int) < (c : Int)) = false := by simpa using hc7
        have d7' : ((127 : Int) < (c : Int)) = False := by simpa using hc7
        have HC7 := Lib.hid hc7
        clear hc7
        go_wp2_with fail
        go_roundw
        case rel =>
          refine ⟨q + 1, by omega, by go_num, Lib.hid (fun j hj => ?_), trivial⟩
          by_cases hjq : j < q
          · exact HA.out j hjq
          · obtain rfl : j = q := by omega
            rw [← HC.out]
            have := HC7.out; omega
        case measure => simp [intOf]; omega
    · obtain rfl : q = s.size := by omega
      go_wp2_with fail
      go_ret
      exact ⟨true, by simp, fun _ => HA.out, rfl⟩
/-- What DMClear says of a text. -/
def Clr (l : List Nat) : Prop := ((∀ i, i < l.length → isE (nth l i) = true) ∨ (∀ j n, (∀ i, i < n → isE (nth l (j + i)) = true) → j + n ≤ l.length → n ≤ 8)) ∧ ((∀ i, i < l.length → isS (nth l i) = false) ∨ ∀ i, i < l.length → isX (nth l i) = true)
def ClrInv (l : List Nat) (q r : Nat) (lg al sp xx : Bool) : Prop := r ≤ q ∧ (r < q → isE (nth l (q - r - 1)) = false) ∧ (lg = false → r ≤ 8 ∧ ∀ j n, (∀ i, i < n → isE (nth l (j + i)) = true) → j + n ≤ q → n ≤ 8) ∧ (al = true → ∀ i, i < q → isE (nth l i) = true) ∧ (sp = false → ∀ i, i < q → isS (nth l i) = false) ∧ (xx = true → ∀ i, i < q → isX (nth l i) = true)
theorem ClrInv.start (l : List Nat) : ClrInv l 0 0 false true false true := ⟨Nat.le_refl _, by omega, fun _ => ⟨by omega, fun j n _ h => by omega⟩, fun _ i h => by omega, fun _ i h => by omega, fun _ i h => by omega⟩
theorem ClrInv.next {l : List Nat} {q r r' c : Nat} {lg al sp xx al' : Bool} (h : ClrInv l q r lg al sp xx) (hc : c = nth l q) (hr : (isE c = true ∧ r' = r + 1 ∧ al' = al) ∨ (isE c = false ∧ r' = 0 ∧ al' = false)) : ClrInv l (q + 1) r' (lg || r' == 9) al' (sp || isS c) (xx && isX c) := by
  obtain ⟨h1, h2, h3, h4, h5, h6⟩ := h
  have hmax : r' < q + 1 → isE (nth l (q + 1 - r' - 1)) = false := by
    rcases hr with ⟨_, rfl, _⟩ | ⟨e, rfl, _⟩
    · intro h; rw [show q + 1 - (r + 1) - 1 = q - r - 1 by omega]; exact h2 (by omega)
    · intro _; rw [show q + 1 - 0 - 1 = q by omega, ← hc]; exact e
  have hrq : r' ≤ q + 1 := by rcases hr with ⟨_, h, _⟩ | ⟨_, h, _⟩ <;> omega
  refine ⟨hrq, hmax, fun hl => ?_, fun ha => ?_, fun hs => ?_, fun hx => ?_⟩
  · simp only [Bool.or_eq_false_iff, beq_eq_false_iff_ne] at hl
    obtain ⟨g1, g2⟩ := h3 hl.1
    have hr8 : r' ≤ 8 := by rcases hr with ⟨_, h, _⟩ | ⟨_, h, _⟩ <;> omega
    refine ⟨hr8, fun j n hn hj => ?_⟩
    rcases Nat.lt_or_ge q (j + n) with g | g
    · rcases Nat.lt_or_ge r' n with g3 | g3
      · exfalso
        have e1 := hn (q - r' - j) (by omega)
        rw [show j + (q - r' - j) = q + 1 - r' - 1 by omega, hmax (by omega)] at e1
        cases e1
      · omega
    · exact g2 j n hn g
  · rcases hr with ⟨e, _, rfl⟩ | ⟨_, _, rfl⟩
    · intro i hi
      rcases Nat.lt_or_ge i q with g | g
      · exact h4 ha i g
      · rw [show i = q by omega, ← hc]; exact e
    · cases ha
  · simp only [Bool.or_eq_false_iff] at hs
    intro i hi
    rcases Nat.lt_or_ge i q with g | g
    · exact h5 hs.1 i g
    · rw [show i = q by omega, ← hc]; exact hs.2
  · simp only [Bool.and_eq_true] at hx
    intro i hi
    rcases Nat.lt_or_ge i q with g | g
    · exact h6 hx.1 i g
    · rw [show i = q by omega, ← hc]; exact hx.2
theorem ClrInv.fin {l : List Nat} {r : Nat} {lg al sp xx : Bool} (h : ClrInv l l.length r lg al sp xx) (hb : ((al || !lg) && (!sp || xx)) = true) : Clr l := by
  obtain ⟨h1, h2, h3, h4, h5, h6⟩ := h
  simp only [Bool.and_eq_true, Bool.or_eq_true, Bool.not_eq_true'] at hb
  refine ⟨?_, ?_⟩
  · rcases hb.1 with g | g
    · exact .inl (h4 g)
    · exact .inr (h3 g).2
  · rcases hb.2 with g | g
    · exact .inl (h5 g)
    · exact .inr (h6 g)
theorem xok_isX (c : Nat) : DW.xok c = isX c := by
  unfold DW.xok isX DW.dig
  have e : ∀ k : Nat, (c == k) = decide (c = k) := fun k => by
    by_cases h : c = k
    · rw [decide_eq_true h]; simp [h]
    · rw [decide_eq_false h]; simp [h]
  rw [e, e, e, e]
theorem xval_sign (c : Nat) : decide ((0 : Int) ≤ xval c) = isX c := by
  unfold xval
  rw [← xok_isX]
  by_cases h : DW.xok c = true
  · rw [if_pos h, h]; simp
  · rw [if_neg h]; simp only [Bool.not_eq_true] at h; rw [h]; rfl
theorem isS_parts (c : Nat) : isS c = (((c == 13) || (c == 42)) || (c == 62)) := by
  have e : ∀ k : Nat, (c == k) = decide (c = k) := fun k => by
    by_cases h : c = k
    · rw [decide_eq_true h]; simp [h]
    · rw [decide_eq_false h]; simp [h]
  unfold isS
  rw [e, e, e]
def ClearPost (l : List Nat) (w : World) (e : Ending) (w' : World) : Prop := ∃ r, e = .returned (.bool r) ∧ (r = true → Clr l) ∧ w = w'
set_option maxRecDepth 100000 in
set_option maxHeartbeats 3200000 in
theorem dmClear (s : ByteArray) (hs : s.size < 4294967296) (w : World) : Calls Tryz.prog 15 #[.string s] w (ClearPost (sb s) w) := by
  obtain ⟨l, hl⟩ : ∃ l, l = sb s := ⟨_, rfl⟩
  have HLL : Hid (l.length = s.size) := Lib.hid (by rw [hl, sb_len])
  have HLE := Lib.hid hl
  rw [← hl]
  clear hl
  go_enter Tryz.func15, Tryz.ntmps15
  go_wp2_with fail
  go_loopw [3, 4, 5, 6, 7, 12] (fun r lg al sp xx i wr => ∃ (q rr : Nat) (b1 b2 b3 b4 : Bool), q ≤ s.size ∧ rr ≤ q ∧ r = .int .i64 rr ∧ lg = .bool b1 ∧ al = .bool b2 ∧ sp = .bool b3 ∧ xx = .bool b4 ∧ i = .int .i64 q ∧ Hid (ClrInv l q rr b1 b2 b3 b4) ∧ w = wr) (fun _ _ _ _ _ i _ => s.size - (intOf i).toNat)
  case atStart => exact ⟨0, 0, false, true, false, true, Nat.zero_le _, Nat.le_refl _, rfl, rfl, rfl, rfl, rfl, rfl, Lib.hid (ClrInv.start l), rfl⟩
  case round =>
    obtain ⟨q, rr, lg, al, sp, xx, hq, hrq, h3, h4, h5, h6, h7, h12, HI, rfl⟩ := hrel
    subst h3 h4 h5 h6 h7 h12
    by_cases hlt : q < s.size
    · have hq1 : (q : Int) < (s.size : Int) := by omega
      have hq0 : (0 : Int) ≤ (q : Int) := by omega
      have hix := str_at (t := 9) Tryz.underlying9 (P := Tryz.prog) s q hlt
      have hcb := sb_at s q
      obtain ⟨c, hc⟩ : ∃ c, c = nth (sb s) q := ⟨_, rfl⟩
      rw [← hc] at hix hcb
      have HC : Hid (c = nth l q) := Lib.hid (by rw [hc, HLE.out])
      have HLT := Lib.hid hlt
      obtain ⟨r1, hr1⟩ : ∃ r1, r1 = rr + 1 := ⟨_, rfl⟩
      have q1 : IntKind.i64.wrap ((rr : Int) + 1) = (r1 : Int) := by rw [IntKind.wrap_i64]; omega
      have HR1 := Lib.hid hr1
      have hr1b : r1 ≤ 4294967296 := by omega
      clear hc hr1
      go_upto_region 8 with (fail)
      go_cut [25] from 20 to 25 (fun b wx => ∃ ne : Bool, b = .bool ne ∧ wx = w ∧ Hid (ne = !isE c))
      case first =>
        by_cases c1 : c < 32
        · have d1 : decide ((c : Int) < 32) = true := by simp; omega
          have HE : Hid (true = !isE c) := Lib.hid (by unfold isE; rw [decide_eq_false (by omega)]; rfl)
          clear c1
          go_wp2_with fail
          go_meet
          case rel => exact ⟨true, rfl, rfl, HE⟩
        · have d1 : decide ((c : Int) < 32) = false := by simp; omega
          by_cases c2 : 94 < c
          · have d2 : decide ((94 : Int) < (c : Int)) = true := by simp; omega
            have HE : Hid (true = !isE c) := Lib.hid (by unfold isE; rw [decide_eq_false (show ¬ c ≤ 94 by omega), Bool.and_false]; rfl)
            clear c1 c2
            go_wp2_with fail
            go_meet
            case rel => exact ⟨true, rfl, rfl, HE⟩
          · have d2 : decide ((94 : Int) < (c : Int)) = false := by simp; omega
            have HE : Hid (false = !isE c) := Lib.hid (by unfold isE; rw [decide_eq_true (show c ≤ 94 by omega), decide_eq_true (show 32 ≤ c by omega)]; rfl)
            clear c1 c2
            go_wp2_with fail
            go_meet
            case rel => exact ⟨false, rfl, rfl, HE⟩
      case rest =>
        obtain ⟨ne, rfl, hwc, HNE⟩ := hcut
        rw [hwc]
        clear hwc
        go_upto_if 25 with (fail)
        go_cut [3, 5] (fun r5 al5 wx => ∃ (r' : Nat) (al' : Bool), r5 = .int .i64 r' ∧ al5 = .bool al' ∧ r' ≤ r1 ∧ wx = w ∧ Hid ((isE c = true ∧ r' = rr + 1 ∧ al' = al) ∨ (isE c = false ∧ r' = 0 ∧ al' = false)))
        case first =>
          cases ne
          · go_wp2_with fail
            go_meet
            case rel => exact ⟨r1, al, rfl, rfl, Nat.le_refl _, rfl, Lib.hid (.inl ⟨by have := HNE.out; simpa using this.symm, HR1.out, rfl⟩)⟩
          · go_wp2_with fail
            go_meet
            case rel => exact ⟨0, false, rfl, rfl, Nat.zero_le _, rfl, Lib.hid (.inr ⟨by have := HNE.out; simpa using this.symm, rfl, rfl⟩)⟩
        case rest =>
          obtain ⟨r', al', hu3, hu5, hr', hwc, HNX⟩ := hcut
          subst hu3 hu5
          rw [hwc]
          clear hwc HNE
          have hrb : r' ≤ 4294967296 := by omega
          obtain ⟨lg', hlg'⟩ : ∃ b, b = (lg || r' == 9) := ⟨_, rfl⟩
          have HLG := Lib.hid hlg'
          obtain ⟨sp', hsp'⟩ : ∃ b, b = (sp || isS c) := ⟨_, rfl⟩
          have HSP := Lib.hid hsp'
          obtain ⟨xx', hxx'⟩ : ∃ b, b = (xx && isX c) := ⟨_, rfl⟩
          have HXX := Lib.hid hxx'
          have hx1 := xval_sign c
          obtain ⟨xc, hxc⟩ : ∃ b, b = isX c := ⟨_, rfl⟩
          rw [← hxc] at hx1
          have HXC := Lib.hid hxc
          have HDX := Lib.hid (dmX12 c hcb w)
          obtain ⟨xv0, hxv⟩ : ∃ x, x = xval c := ⟨_, rfl⟩
          rw [← hxv] at HDX hx1
          clear hlg' hsp' hxx' hxc hxv
          go_upto_region 10 with (fail)
          go_cut [4] from 26 to 30 (fun b wx => b = .bool lg' ∧ wx = w)
          case first =>
            cases lg
            · by_cases h9 : r' = 9
              · have d9 : ((r' : Int) == 9) = true := by simp; omega
                have HL : Hid (true = lg') := Lib.hid (by rw [HLG.out, h9]; rfl)
                clear h9
                go_wp2_with fail
                go_meet
                case rel => exact ⟨by rw [← HL.out], rfl⟩
              · have d9 : ((r' : Int) == 9) = false := by simp; omega
                have HL : Hid (false = lg') := Lib.hid (by rw [HLG.out]; simp [h9])
                clear h9
                go_wp2_with fail
                go_meet
                case rel => exact ⟨by rw [← HL.out], rfl⟩
            · have HL : Hid (true = lg') := Lib.hid (by rw [HLG.out]; rfl)
              go_wp2_with fail
              go_meet
              case rel => exact ⟨by rw [← HL.out], rfl⟩
          case rest =>
            obtain ⟨hu4, hwc⟩ := hcut
            subst hu4
            rw [hwc]
            clear hwc
            go_upto_region 11 with (fail)
            go_cut [6] from 31 to 43 (fun b wx => b = .bool sp' ∧ wx = w)
            case first =>
              cases sp
              · by_cases h13 : c = 13
                · have d1 : ((c : Int) == 13) = true := by simp; omega
                  have HL : Hid (true = sp') := Lib.hid (by rw [HSP.out, isS_parts, h13]; rfl)
                  clear h13
                  go_wp2_with fail
                  go_meet
                  case rel => exact ⟨by rw [← HL.out], rfl⟩
                · have d1 : ((c : Int) == 13) = false := by simp; omega
                  by_cases h42 : c = 42
                  · have d2 : ((c : Int) == 42) = true := by simp; omega
                    have HL : Hid (true = sp') := Lib.hid (by rw [HSP.out, isS_parts, h42]; rfl)
                    clear h13 h42
                    go_wp2_with fail
                    go_meet
                    case rel => exact ⟨by rw [← HL.out], rfl⟩
                  · have d2 : ((c : Int) == 42) = false := by simp; omega
                    by_cases h62 : c = 62
                    · have d3 : ((c : Int) == 62) = true := by simp; omega
                      have HL : Hid (true = sp') := Lib.hid (by rw [HSP.out, isS_parts, h62]; rfl)
                      clear h13 h42 h62
                      go_wp2_with fail
                      go_meet
                      case rel => exact ⟨by rw [← HL.out], rfl⟩
                    · have d3 : ((c : Int) == 62) = false := by simp; omega
                      have HL : Hid (false = sp') := Lib.hid (by rw [HSP.out, isS_parts]; simp [h13, h42, h62])
                      clear h13 h42 h62
                      go_wp2_with fail
                      go_meet
                      case rel => exact ⟨by rw [← HL.out], rfl⟩
              · have HL : Hid (true = sp') := Lib.hid (by rw [HSP.out]; rfl)
                go_wp2_with fail
                go_meet
                case rel => exact ⟨by rw [← HL.out], rfl⟩
            case rest =>
              obtain ⟨hu6, hwc⟩ := hcut
              subst hu6
              rw [hwc]
              clear hwc
              have HI' : Hid (ClrInv l (q + 1) r' lg' al' sp' xx') := Lib.hid (by
                rw [HLG.out, HSP.out, HXX.out]; exact HI.out.next HC.out HNX.out)
              have hrq' : r' ≤ q + 1 := by have := HR1.out; omega
              clear HI HNX hix
              cases xx
              · have HL : Hid (xx' = false) := Lib.hid (by rw [HXX.out]; rfl)
                rw [HL.out] at HI'
                clear HDX hx1
                go_wp2_with fail
                go_roundw
                case rel => exact ⟨q + 1, r', lg', al', sp', false, by have := HLT.out; omega, hrq', rfl, rfl, rfl, rfl, rfl, by go_num, HI', trivial⟩
                case measure => simp [intOf]; have := HLT.out; omega
              · have HL : Hid (xx' = xc) := Lib.hid (by rw [HXX.out, HXC.out]; rfl)
                rw [HL.out] at HI'
                go_wp2_with fail
                refine HDX.out.mono ?_
                rintro e w1 ⟨rfl, rfl⟩
                go_wp2_with fail
                go_roundw
                case rel => exact ⟨q + 1, r', lg', al', sp', xc, by have := HLT.out; omega, hrq', rfl, rfl, rfl, rfl, rfl, by go_num, HI', trivial⟩
                case measure => simp [intOf]; have := HLT.out; omega
    · obtain rfl : q = s.size := by omega
      have HF : Hid (((al || !lg) && (!sp || xx)) = true → Clr l) := Lib.hid (fun h => by
        have h1 := HI.out
        rw [← HLL.out] at h1
        exact h1.fin h)
      clear HI
      cases al <;> cases lg <;> cases sp <;> cases xx <;>
        (go_wp2_with fail
         go_ret
         exact ⟨_, rfl, fun h => HF.out (by first | rfl | exact h), rfl⟩)
end Go.Proofs.YtcadknfcahmdcaaGreat
