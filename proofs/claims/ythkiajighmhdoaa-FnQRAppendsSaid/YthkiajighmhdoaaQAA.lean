/-
  Small functions of the laws and of the reference (QR segments), walked. No condition beyond the bounds that each theorem states.
-/
import Derived.Test.YthkiajighmhdoaaQAP
import Derived.Test.YthkiajighmhdoaaQAI
import Derived.Test.YthkiajighmhdoaaDAS
import Derived.Test.YthkiajighmhdoaaRows
import Derived.BigQuiet
import Derived.BigRegion
import Derived.Deep.RegionLaw
import Derived.Deep.RegionHeld3
import Derived.Deep.Cut
namespace Go.Proofs.Ythkiajighmhdoaa
open Go.RowKit Go.Qz Go.Qz.QA
set_option linter.unusedVariables false

theorem Try.infoU8Q : (Try.prog.info? 5).map (fun i => (i.zero, i.size, i.bytes)) = some (some (.int .u8 0), 1, 1) := by kernel_rfl
theorem Try.infoBoolQ : (Try.prog.info? 4).map (fun i => (i.zero, i.size, i.bytes)) = some (some (.bool false), 1, 1) := by kernel_rfl
def bvl (l : List Bool) : List Value := l.map Value.bool
def u8q (l : List Nat) : List Value := l.map fun x : Nat => Value.int .u8 x
theorem bvl_snoc (l : List Bool) (x : Bool) : bvl (l ++ [x]) = bvl l ++ [.bool x] := by simp [bvl]
theorem u8q_snoc (l : List Nat) (x : Nat) : u8q (l ++ [x]) = u8q l ++ [.int .u8 (x : Nat)] := by simp [u8q]
set_option maxRecDepth 100000 in
theorem qrVersion (a : Nat) (ha : a < 256) (w : World) : Calls Try.prog 7 #[.int .u8 a] w fun e w' => e = .returned (.int .i64 ((1 + a % 40 : Nat) : Int)) ∧ w = w' := by
  obtain ⟨r, hr⟩ : ∃ r, r = a % 40 := ⟨_, rfl⟩
  obtain ⟨s, hs⟩ : ∃ s, s = 1 + r := ⟨_, rfl⟩
  rw [← hr, ← hs]
  have t1 : (a : Int).tmod 40 = (r : Int) := by rw [Int.tmod_eq_emod_of_nonneg (by omega)]; omega
  have t2 : (a : Int) % 40 = (r : Int) := by omega
  have t3 : (1 : Int) + (r : Int) = (s : Int) := by omega
  have hrb : r < 40 := by omega
  clear hr hs
  go_enter Try.func7, Try.ntmps7
  go_wp2_with fail
  go_ret
  exact ⟨rfl, rfl⟩
set_option maxRecDepth 100000 in
theorem qrLevel (a : Nat) (ha : a < 256) (w : World) : Calls Try.prog 12 #[.int .u8 a] w fun e w' => e = .returned (.int .i64 ((a % 4 : Nat) : Int)) ∧ w = w' := by
  obtain ⟨r, hr⟩ : ∃ r, r = a % 4 := ⟨_, rfl⟩
  rw [← hr]
  have t1 : (a : Int).tmod 4 = (r : Int) := by rw [Int.tmod_eq_emod_of_nonneg (by omega)]; omega
  have t2 : (a : Int) % 4 = (r : Int) := by omega
  have hrb : r < 4 := by omega
  clear hr
  go_enter Try.func12, Try.ntmps12
  go_wp2_with fail
  go_ret
  exact ⟨rfl, rfl⟩
def lvName (l : Nat) : ByteArray := if l = 0 then ⟨#[77]⟩ else if l = 1 then ⟨#[76]⟩ else if l = 2 then ⟨#[72]⟩ else ⟨#[81]⟩
set_option maxRecDepth 100000 in
theorem qrName (l : Nat) (hl : l < 4) (w : World) : Calls Try.prog 28 #[.int .i64 l] w fun e w' => e = .returned (.string (lvName l)) ∧ w = w' := by
  have hix : ∀ W, (Instr.index 114 (.agg #[.string ⟨#[77]⟩, .string ⟨#[76]⟩, .string ⟨#[72]⟩, .string ⟨#[81]⟩]) (.int .i64 ((l : Nat) : Int))).run Try.prog W = .ok (.string (lvName l)) W := by
    intro W
    have h : l = 0 ∨ l = 1 ∨ l = 2 ∨ l = 3 := by omega
    rcases h with rfl | rfl | rfl | rfl <;> rfl
  go_enter Try.func28, Try.ntmps28
  go_wp2_with fail
  go_ret
  exact ⟨rfl, rfl⟩
set_option maxRecDepth 100000 in
theorem lvString (l : Nat) (hl : l < 4) (w : World) : Calls Try.prog 66 #[.int .i64 l] w fun e w' => e = .returned (.string (lvName l)) ∧ w = w' := by
  have h : l = 0 ∨ l = 1 ∨ l = 2 ∨ l = 3 := by omega
  rcases h with rfl | rfl | rfl | rfl
  all_goals
    go_enter Try.func66, Try.ntmps66
    go_wp2_with fail
    go_ret
    exact ⟨rfl, rfl⟩
set_option maxRecDepth 100000 in
theorem fits9 (m : Int) (A : Option Addr) (n c : Nat) (hn : n ≤ maxLen) (w : World) : Calls Try.prog 18 #[.agg #[.int .i64 m, .slice A n c]] w fun e w' => e = .returned (.bool (decide ((n : Int) ≤ 2147483647))) ∧ Below w.heap.size w w' := by
  by_cases h : (2147483647 : Int) < (n : Int)
  · have hd : decide ((n : Int) ≤ 2147483647) = false := by simp; omega
    rw [hd]
    clear hd
    go_enter Try.func18, Try.ntmps18
    go_wp2_with fail
    go_ret
    exact ⟨rfl, (Below.refl _ _).alloc (Nat.le_refl _) _⟩
  · have hd : decide ((n : Int) ≤ 2147483647) = true := by simp; omega
    rw [hd]
    have h2 : ((2147483647 : Int) < (n : Int)) = False := by simpa using h
    clear hd h
    go_enter Try.func18, Try.ntmps18
    go_wp2_with fail
    go_ret
    exact ⟨rfl, (Below.refl _ _).alloc (Nat.le_refl _) _⟩
set_option maxRecDepth 100000 in
set_option maxHeartbeats 1600000 in
theorem fits8 (len c : Nat) (hlen : len ≤ maxLen) (Z : Nat → SegR) (A : Option Addr) (w : World) (h : SegsR w A len Z) :
    Calls Try.prog 5 #[.slice A len c] w fun e w' => (∃ r, e = .returned (.bool r)) ∧ Below w.heap.size w w' := by
  unfold maxLen at hlen
  have HS := Lib.hid h
  clear h
  by_cases hbig : (2147483647 : Int) < (len : Int)
  · go_enter Try.func5, Try.ntmps5
    go_wp2_with fail
    go_ret
    exact ⟨⟨_, rfl⟩, Below.refl _ _⟩
  have h2 : ((2147483647 : Int) < (len : Int)) = False := by simpa using hbig
  have hl2 : len ≤ 2147483647 := by omega
  clear hbig hlen
  go_enter Try.func5, Try.ntmps5
  go_wp2_with fail
  go_loopw [10] (fun i wr => ∃ q : Nat, q ≤ len ∧ i = .int .i64 q ∧ Hid (Below w.heap.size w wr)) (fun i _ => len - (intOf i).toNat)
  case atStart => exact ⟨0, Nat.zero_le _, rfl, Lib.hid (Below.refl _ _)⟩
  case round =>
    obtain ⟨q, hq, rfl, HBE⟩ := hrel
    obtain ⟨wi, hwi⟩ : ∃ wi, wi = wr := ⟨_, rfl⟩
    rw [← hwi] at HBE ⊢
    clear hwi
    by_cases hlt : q < len
    · have hq1 : (q : Int) < (len : Int) := by omega
      have hq0 : (0 : Int) ≤ (q : Int) := by omega
      obtain ⟨b, off, e, hb, hx⟩ := (HS.out.below HBE.out) (by omega)
      subst e
      obtain ⟨k1, k2, k3, k4, k5, k6⟩ := hx q hlt
      have c0 := k1 0 _ rfl
      have c1 := k1 1 _ rfl
      obtain ⟨md, hmd⟩ : ∃ x, x = (Z q).mode := ⟨_, rfl⟩
      obtain ⟨A2, hA2⟩ : ∃ x, x = (Z q).A := ⟨_, rfl⟩
      obtain ⟨n2, hn2⟩ : ∃ x, x = (Z q).n := ⟨_, rfl⟩
      obtain ⟨c2, hc2⟩ : ∃ x, x = (Z q).c := ⟨_, rfl⟩
      rw [← hmd, Nat.add_zero] at c0
      rw [← hA2, ← hn2, ← hc2] at c1
      have HF := Lib.hid (fun W => fits9 md A2 n2 c2 (by rw [hn2]; exact Nat.le_trans k3 k4) W)
      have HB1 : Hid (Below w.heap.size w (wi.alloc (.cells #[.int .i64 md, .slice A2 n2 c2] 49))) := Lib.hid (HBE.out.alloc HBE.out.size _)
      obtain ⟨r, hr⟩ : ∃ r, r = decide ((n2 : Int) ≤ 2147483647) := ⟨_, rfl⟩
      rw [← hr] at HF
      clear k1 k2 k3 k4 k5 k6 hx hmd hA2 hn2 hc2 hr
      go_wp2_with fail
      refine (HF.out _).mono ?_
      rintro e w2 ⟨rfl, hb2⟩
      have HB2 : Hid (Below w.heap.size w w2) := Lib.hid (HB1.out.trans (hb2.mono HB1.out.size))
      clear hb2
      cases r with
      | false =>
        go_wp2_with fail
        go_ret
        exact ⟨⟨_, rfl⟩, HB2.out⟩
      | true =>
        go_wp2_with fail
        go_roundw
        case rel => exact ⟨q + 1, by omega, by go_num, HB2⟩
        case measure => simp [intOf]; omega
    · obtain rfl : q = len := by omega
      go_wp2_with fail
      go_ret
      exact ⟨⟨_, rfl⟩, HBE.out⟩

/-- The number of a byte, -1: it has none. -/
def alV (c : Nat) : Int := if alNum c < 45 then (alNum c : Nat) else -1
theorem al_low : ∀ c, c < 256 → (48 ≤ c ∧ c ≤ 57 → alV c = ((c - 48 : Nat) : Int)) ∧ (65 ≤ c ∧ c ≤ 90 → alV c = ((c - 55 : Nat) : Int)) := by decide +kernel
theorem al_nine : ∀ i, i < 9 → alV (nth alS (36 + i)) = ((36 + i : Nat) : Int) := by decide +kernel
theorem al_none : ∀ c, c < 256 → ((decide (48 ≤ c) && decide (c ≤ 57)) || ((decide (65 ≤ c) && decide (c ≤ 90)) || ((List.range 9).any fun j => nth alS (36 + j) == c))) = false → alV c = -1 := by decide +kernel
theorem al_rest (c : Nat) (hc : c < 256) (h1 : ¬ (48 ≤ c ∧ c ≤ 57)) (h2 : ¬ (65 ≤ c ∧ c ≤ 90)) (i : Nat) (hi : i < 10) (h : ∀ j, j < i → nth alS (36 + j) ≠ c) : (i < 9 → nth alS (36 + i) = c → alV c = ((36 + i : Nat) : Int)) ∧ (i = 9 → alV c = -1) := by
  refine ⟨fun h9 e => by rw [← e]; exact al_nine i h9, fun h9 => al_none c hc ?_⟩
  rw [Bool.or_eq_false_iff, Bool.or_eq_false_iff]
  refine ⟨by rw [← Bool.not_eq_true]; simpa using h1, by rw [← Bool.not_eq_true]; simpa using h2, ?_⟩
  rw [List.any_eq_false]
  intro j hj
  have := h j (by have := List.mem_range.1 hj; omega)
  simpa using this
def nineV : Array Value := #[.int .u8 32, .int .u8 36, .int .u8 37, .int .u8 42, .int .u8 43, .int .u8 45, .int .u8 46, .int .u8 47, .int .u8 58]
set_option maxRecDepth 100000 in
theorem nine_at : ∀ i, i < 9 → ∀ W, (Instr.index 133 (.agg nineV) (.int .i64 ((i : Nat) : Int))).run Try.prog W = .ok (.int .u8 ((nth alS (36 + i) : Nat) : Int)) W := by
  intro i hi W
  have : i = 0 ∨ i = 1 ∨ i = 2 ∨ i = 3 ∨ i = 4 ∨ i = 5 ∨ i = 6 ∨ i = 7 ∨ i = 8 := by omega
  rcases this with rfl | rfl | rfl | rfl | rfl | rfl | rfl | rfl | rfl <;> rfl
set_option maxRecDepth 100000 in
set_option maxHeartbeats 1600000 in
theorem qrAlpha (c : Nat) (hc : c < 256) (w : World) : Calls Try.prog 40 #[.int .u8 c] w fun e w' => e = .returned (.int .i64 (alV c)) ∧ w = w' := by
  obtain ⟨hl1, hl2⟩ := al_low c hc
  by_cases h48 : (48 : Int) ≤ (c : Int)
  · by_cases h57 : (c : Int) ≤ 57
    · rw [hl1 ⟨by omega, by omega⟩]
      obtain ⟨x, hx⟩ : ∃ x, x = c - 48 := ⟨_, rfl⟩
      rw [← hx]
      have e1 : (c : Int) - 48 = (x : Int) := by omega
      have hxb : x < 10 := by omega
      clear hx hl1 hl2
      go_enter Try.func40, Try.ntmps40
      go_wp2_with fail
      go_ret
      exact ⟨rfl, rfl⟩
    · have h57' : ((c : Int) ≤ 57) = False := by simpa using h57
      by_cases h65 : (65 : Int) ≤ (c : Int)
      · by_cases h90 : (c : Int) ≤ 90
        · rw [hl2 ⟨by omega, by omega⟩]
          obtain ⟨x, hx⟩ : ∃ x, x = c - 65 := ⟨_, rfl⟩
          obtain ⟨y, hy⟩ : ∃ y, y = c - 55 := ⟨_, rfl⟩
          rw [← hy]
          have e1 : (c : Int) - 65 = (x : Int) := by omega
          have e2 : (x : Int) + 10 = (y : Int) := by omega
          have hxb : x < 26 := by omega
          clear hx hy hl1 hl2 h57
          go_enter Try.func40, Try.ntmps40
          go_wp2_with fail
          go_ret
          exact ⟨rfl, rfl⟩
        · have h90' : ((c : Int) ≤ 90) = False := by simpa using h90
          have HR := Lib.hid (al_rest c hc (by omega) (by omega))
          clear hl1 hl2 h57 h90
          go_enter Try.func40, Try.ntmps40
          go_wp2_with fail
          go_loopw [27] (fun i wr => ∃ q : Nat, q ≤ 9 ∧ i = .int .i64 q ∧ Hid (∀ j, j < q → nth alS (36 + j) ≠ c) ∧ w = wr) (fun i _ => 9 - (intOf i).toNat)
          case atStart => exact ⟨0, by omega, rfl, Lib.hid (fun j hj => absurd hj (by omega)), rfl⟩
          case round =>
            obtain ⟨q, hq, rfl, HN, rfl⟩ := hrel
            by_cases hlt : q < 9
            · have hq1 : (q : Int) < 9 := by omega
              have hix := nine_at q hlt
              unfold nineV at hix
              obtain ⟨d, hd⟩ : ∃ d, d = nth alS (36 + q) := ⟨_, rfl⟩
              rw [← hd] at hix
              have HD := Lib.hid hd
              clear hd
              by_cases hcd : c = d
              · have hcd1 : ((c : Int) == (d : Int)) = true := by simp; omega
                obtain ⟨y, hy⟩ : ∃ y, y = 36 + q := ⟨_, rfl⟩
                have e1 : (36 : Int) + (q : Int) = (y : Int) := by omega
                have hv := (HR.out q (by omega) HN.out).1 hlt (by rw [← HD.out]; exact hcd.symm)
                rw [← hy] at hv
                have HV := Lib.hid hv
                have hyb : y < 50 := by omega
                clear hcd hy hv
                go_wp2_with fail
                go_ret
                exact ⟨by rw [HV.out]; rfl, rfl⟩
              · have hcd1 : ((c : Int) == (d : Int)) = false := by simp; omega
                have HCD := Lib.hid hcd
                clear hcd
                go_wp2_with fail
                go_roundw
                case rel =>
                  refine ⟨q + 1, by omega, by go_num, Lib.hid (fun j hj => ?_), trivial⟩
                  by_cases hjq : j < q
                  · exact HN.out j hjq
                  · obtain rfl : j = q := by omega
                    intro h; exact HCD.out (by rw [HD.out]; exact h.symm)
                case measure => simp [intOf]; omega
            · obtain rfl : q = 9 := by omega
              have HV := Lib.hid ((HR.out 9 (by omega) HN.out).2 rfl)
              go_wp2_with fail
              go_ret
              exact ⟨by rw [HV.out]; rfl, rfl⟩
      · have h65' : ((65 : Int) ≤ (c : Int)) = False := by simpa using h65
        have HR := Lib.hid (al_rest c hc (by omega) (by omega))
        clear hl1 hl2 h57 h65
        go_enter Try.func40, Try.ntmps40
        go_wp2_with fail
        go_loopw [27] (fun i wr => ∃ q : Nat, q ≤ 9 ∧ i = .int .i64 q ∧ Hid (∀ j, j < q → nth alS (36 + j) ≠ c) ∧ w = wr) (fun i _ => 9 - (intOf i).toNat)
        case atStart => exact ⟨0, by omega, rfl, Lib.hid (fun j hj => absurd hj (by omega)), rfl⟩
        case round =>
          obtain ⟨q, hq, rfl, HN, rfl⟩ := hrel
          by_cases hlt : q < 9
          · have hq1 : (q : Int) < 9 := by omega
            have hix := nine_at q hlt
            unfold nineV at hix
            obtain ⟨d, hd⟩ : ∃ d, d = nth alS (36 + q) := ⟨_, rfl⟩
            rw [← hd] at hix
            have HD := Lib.hid hd
            clear hd
            by_cases hcd : c = d
            · have hcd1 : ((c : Int) == (d : Int)) = true := by simp; omega
              obtain ⟨y, hy⟩ : ∃ y, y = 36 + q := ⟨_, rfl⟩
              have e1 : (36 : Int) + (q : Int) = (y : Int) := by omega
              have hv := (HR.out q (by omega) HN.out).1 hlt (by rw [← HD.out]; exact hcd.symm)
              rw [← hy] at hv
              have HV := Lib.hid hv
              have hyb : y < 50 := by omega
              clear hcd hy hv
              go_wp2_with fail
              go_ret
              exact ⟨by rw [HV.out]; rfl, rfl⟩
            · have hcd1 : ((c : Int) == (d : Int)) = false := by simp; omega
              have HCD := Lib.hid hcd
              clear hcd
              go_wp2_with fail
              go_roundw
              case rel =>
                refine ⟨q + 1, by omega, by go_num, Lib.hid (fun j hj => ?_), trivial⟩
                by_cases hjq : j < q
                · exact HN.out j hjq
                · obtain rfl : j = q := by omega
                  intro h; exact HCD.out (by rw [HD.out]; exact h.symm)
              case measure => simp [intOf]; omega
          · obtain rfl : q = 9 := by omega
            have HV := Lib.hid ((HR.out 9 (by omega) HN.out).2 rfl)
            go_wp2_with fail
            go_ret
            exact ⟨by rw [HV.out]; rfl, rfl⟩
  · have h48' : ((48 : Int) ≤ (c : Int)) = False := by simpa using h48
    have h65' : ((65 : Int) ≤ (c : Int)) = False := by simp; omega
    have HR := Lib.hid (al_rest c hc (by omega) (by omega))
    clear hl1 hl2 h48
    go_enter Try.func40, Try.ntmps40
    go_wp2_with fail
    go_loopw [27] (fun i wr => ∃ q : Nat, q ≤ 9 ∧ i = .int .i64 q ∧ Hid (∀ j, j < q → nth alS (36 + j) ≠ c) ∧ w = wr) (fun i _ => 9 - (intOf i).toNat)
    case atStart => exact ⟨0, by omega, rfl, Lib.hid (fun j hj => absurd hj (by omega)), rfl⟩
    case round =>
      obtain ⟨q, hq, rfl, HN, rfl⟩ := hrel
      by_cases hlt : q < 9
      · have hq1 : (q : Int) < 9 := by omega
        have hix := nine_at q hlt
        unfold nineV at hix
        obtain ⟨d, hd⟩ : ∃ d, d = nth alS (36 + q) := ⟨_, rfl⟩
        rw [← hd] at hix
        have HD := Lib.hid hd
        clear hd
        by_cases hcd : c = d
        · have hcd1 : ((c : Int) == (d : Int)) = true := by simp; omega
          obtain ⟨y, hy⟩ : ∃ y, y = 36 + q := ⟨_, rfl⟩
          have e1 : (36 : Int) + (q : Int) = (y : Int) := by omega
          have hv := (HR.out q (by omega) HN.out).1 hlt (by rw [← HD.out]; exact hcd.symm)
          rw [← hy] at hv
          have HV := Lib.hid hv
          have hyb : y < 50 := by omega
          clear hcd hy hv
          go_wp2_with fail
          go_ret
          exact ⟨by rw [HV.out]; rfl, rfl⟩
        · have hcd1 : ((c : Int) == (d : Int)) = false := by simp; omega
          have HCD := Lib.hid hcd
          clear hcd
          go_wp2_with fail
          go_roundw
          case rel =>
            refine ⟨q + 1, by omega, by go_num, Lib.hid (fun j hj => ?_), trivial⟩
            by_cases hjq : j < q
            · exact HN.out j hjq
            · obtain rfl : j = q := by omega
              intro h; exact HCD.out (by rw [HD.out]; exact h.symm)
          case measure => simp [intOf]; omega
      · obtain rfl : q = 9 := by omega
        have HV := Lib.hid ((HR.out 9 (by omega) HN.out).2 rfl)
        go_wp2_with fail
        go_ret
        exact ⟨by rw [HV.out]; rfl, rfl⟩

set_option maxRecDepth 1000000 in
theorem al_first : ∀ n, n < 45 → 32 ≤ alOf n ∧ alOf n ≤ 90 ∧ alV (alOf n) = ((n : Nat) : Int) ∧ ∀ c, c < alOf n → 32 ≤ c → alV c ≠ ((n : Nat) : Int) := by decide +kernel
set_option maxRecDepth 100000 in
set_option maxHeartbeats 1600000 in
theorem qrAlphaByte (n : Nat) (hn : n < 45) (w : World) : Calls Try.prog 19 #[.int .i64 n] w fun e w' => e = .returned (.int .u8 ((alOf n : Nat) : Int)) ∧ w = w' := by
  obtain ⟨h1, h2, h3, h4⟩ := al_first n hn
  obtain ⟨A, hA⟩ : ∃ A, A = alOf n := ⟨_, rfl⟩
  rw [← hA] at h1 h2 h3 h4 ⊢
  have H3 := Lib.hid h3
  have H4 := Lib.hid h4
  clear h3 h4 hA
  go_enter Try.func19, Try.ntmps19
  go_wp2_with fail
  go_loopw [3] (fun i wr => ∃ q : Nat, q ≤ A ∧ 32 ≤ q ∧ i = .int .u8 q ∧ w = wr) (fun i _ => 100 - (intOf i).toNat)
  case atStart => exact ⟨32, h1, Nat.le_refl _, rfl, rfl⟩
  case round =>
    obtain ⟨q, hq, hq32, rfl, rfl⟩ := hrel
    have hq90 : (q : Int) ≤ 90 := by omega
    have HAL := qrAlpha q (by omega) w
    obtain ⟨v, hv⟩ : ∃ v, v = alV q := ⟨_, rfl⟩
    rw [← hv] at HAL
    have HAL := Lib.hid HAL
    by_cases hqA : q = A
    · have hvn : (v == (n : Int)) = true := by rw [hv, hqA, H3.out]; simp
      have HQA := Lib.hid hqA
      clear hv hqA
      go_wp2_with fail
      refine HAL.out.mono ?_
      rintro e w1 ⟨rfl, rfl⟩
      go_wp2_with fail
      go_ret
      exact ⟨by rw [← HQA.out]; rfl, rfl⟩
    · have hvn : (v == (n : Int)) = false := by
        rw [hv]
        have := H4.out q (by omega) hq32
        simpa using this
      have HQA := Lib.hid hqA
      clear hv hqA
      go_wp2_with fail
      refine HAL.out.mono ?_
      rintro e w1 ⟨rfl, rfl⟩
      go_wp2_with fail
      go_roundw
      case rel => exact ⟨q + 1, by have := HQA.out; omega, by omega, by go_num, trivial⟩
      case measure => simp [intOf]; omega
end Go.Proofs.Ythkiajighmhdoaa
