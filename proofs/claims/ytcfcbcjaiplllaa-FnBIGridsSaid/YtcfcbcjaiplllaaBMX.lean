/-
  BitMatrix.SetRegion, walked: refused, or the modules of the region set. No condition beyond the bounds that each theorem states.
-/
import Derived.Test.YtcfcbcjaiplllaaBMS
import Derived.Test.YtcfcbcjaiplllaaBIR2
import Derived.Outline
import Derived.BigRegion
namespace Go.Proofs.Ytcfcbcjaiplllaa
open Go.RowKit Go.Qz
set_option linter.unusedVariables false

set_option maxRecDepth 100000 in
set_option maxHeartbeats 1600000 in
theorem bm_region_no (A B C D : Int) (p g W H : Nat) (ws : List Nat) (w : World) (h : BM w p g ws W H) (bA : -1000 < A ∧ A < 1000) (bB : -1000 < B ∧ B < 1000) (bC : -1000 < C ∧ C < 1000) (bD : -1000 < D ∧ D < 1000)
    (hno : ¬ (0 ≤ A ∧ 0 ≤ B ∧ 1 ≤ C ∧ 1 ≤ D ∧ A + C ≤ W ∧ B + D ≤ H)) :
    Calls Try.prog 32 #[.pointer (some ⟨p, 0, none⟩), .int .i64 A, .int .i64 B, .int .i64 C, .int .i64 D] w fun e w' => ∃ v, e = .returned v ∧ IsErr v ∧ Below w.heap.size w w' := by
  have hwid := h.width
  have hhei := h.height
  have wA : IntKind.i64.wrap (A + C) = A + C := by rw [IntKind.wrap_i64]; omega
  have wB : IntKind.i64.wrap (B + D) = B + D := by rw [IntKind.wrap_i64]; omega
  clear h
  go_enter Try.func32, Try.ntmps32
  by_cases c1 : B < 0
  · clear hno
    go_wp2_with fail
    refine (err_new _ _).mono ?_
    rintro e w1 ⟨v, rfl, he, hb⟩
    have HE := Lib.hid he
    clear he
    go_wp2_with fail
    go_ret
    exact ⟨v, rfl, HE.out, hb⟩
  by_cases c2 : A < 0
  · have d1 : decide (B < 0) = false := by simp; omega
    clear hno
    go_wp2_with fail
    refine (err_new _ _).mono ?_
    rintro e w1 ⟨v, rfl, he, hb⟩
    have HE := Lib.hid he
    clear he
    go_wp2_with fail
    go_ret
    exact ⟨v, rfl, HE.out, hb⟩
  have d1 : decide (B < 0) = false := by simp; omega
  have d2 : decide (A < 0) = false := by simp; omega
  by_cases c3 : D < 1
  · clear hno
    go_wp2_with fail
    refine (err_new _ _).mono ?_
    rintro e w1 ⟨v, rfl, he, hb⟩
    have HE := Lib.hid he
    clear he
    go_wp2_with fail
    go_ret
    exact ⟨v, rfl, HE.out, hb⟩
  have d3 : decide (D < 1) = false := by simp; omega
  by_cases c4 : C < 1
  · clear hno
    go_wp2_with fail
    refine (err_new _ _).mono ?_
    rintro e w1 ⟨v, rfl, he, hb⟩
    have HE := Lib.hid he
    clear he
    go_wp2_with fail
    go_ret
    exact ⟨v, rfl, HE.out, hb⟩
  have d4 : decide (C < 1) = false := by simp; omega
  by_cases c5 : (H : Int) < B + D
  · clear hno
    go_wp2_with fail
    refine (err_new _ _).mono ?_
    rintro e w1 ⟨v, rfl, he, hb⟩
    have HE := Lib.hid he
    clear he
    go_wp2_with fail
    go_ret
    exact ⟨v, rfl, HE.out, hb⟩
  have d5 : decide ((H : Int) < B + D) = false := by simp; omega
  have c6 : (W : Int) < A + C := by omega
  clear hno
  go_wp2_with fail
  refine (err_new _ _).mono ?_
  rintro e w1 ⟨v, rfl, he, hb⟩
  have HE := Lib.hid he
  clear he
  go_wp2_with fail
  go_ret
  exact ⟨v, rfl, HE.out, hb⟩

/-- The words with the bits of a region set, so far: rows below k whole, row k up to x. -/
def Region (ws ws' : List Nat) (W H a c b k x : Nat) : Prop :=
  ∀ i j, i < W → j < H → mb ws' W i j = (mb ws W i j || decide (a ≤ i ∧ i < a + c ∧ b ≤ j ∧ (j < k ∨ j = k ∧ i < x)))
theorem Region.set_ {ws ws' : List Nat} {W H a c b k x : Nat} (h : Region ws ws' W H a c b k x) (hlen : ws'.length = (W + 31) / 32 * H) (hx : x < W) (hk : k < H) (hax : a ≤ x) (hxc : x < a + c) (hbk : b ≤ k) :
    Region ws (ws'.set (k * ((W + 31) / 32) + x / 32) (nth ws' (k * ((W + 31) / 32) + x / 32) ||| 2 ^ (x % 32))) W H a c b k (x + 1) := by
  intro i j hi hj
  rw [mb_set ws' W H i j x k hlen hx hk hi, h i j hi hj, Bool.or_assoc]
  congr 1
  rw [Bool.eq_iff_iff]
  simp only [Bool.or_eq_true, decide_eq_true_eq]
  omega

set_option maxRecDepth 100000 in
set_option maxHeartbeats 3200000 in
theorem bm_region (a b c d : Nat) (p g W H : Nat) (ws : List Nat) (w : World) (h : BM w p g ws W H) (hW : W < 1000) (hH : H < 1000) (hc : 1 ≤ c) (hd : 1 ≤ d) (hac : a + c ≤ W) (hbd : b + d ≤ H) :
    Calls Try.prog 32 #[.pointer (some ⟨p, 0, none⟩), .int .i64 a, .int .i64 b, .int .i64 c, .int .i64 d] w fun e w' => ∃ ws', e = .returned .nilIface ∧ Hid (BM w' p g ws' W H) ∧ Hid (Region ws ws' W H a c b (b + d) 0) ∧ Hid (Mod (fun b => b = g) w w') := by
  have hwid := h.width
  have hhei := h.height
  have HH := Lib.hid h
  have wA : IntKind.i64.wrap ((a : Int) + (c : Int)) = ((a + c : Nat) : Int) := by rw [IntKind.wrap_i64]; omega
  have wB : IntKind.i64.wrap ((b : Int) + (d : Int)) = ((b + d : Nat) : Int) := by rw [IntKind.wrap_i64]; omega
  have d1 : decide ((b : Int) < 0) = false := by simp
  have d2 : decide ((a : Int) < 0) = false := by simp
  have d3 : decide ((d : Int) < 1) = false := by simp; omega
  have d4 : decide ((c : Int) < 1) = false := by simp; omega
  obtain ⟨T, hT⟩ : ∃ T, T = b + d := ⟨_, rfl⟩
  obtain ⟨X, hX⟩ : ∃ X, X = a + c := ⟨_, rfl⟩
  rw [← hT] at wB ⊢
  rw [← hX] at wA
  have d5 : decide ((H : Int) < (T : Int)) = false := by simp; omega
  have d6 : decide ((W : Int) < (X : Int)) = false := by simp; omega
  have hTH : T ≤ H := by omega
  have hXW : X ≤ W := by omega
  have hbT : b ≤ T := by omega
  have haX : a ≤ X := by omega
  have HX := Lib.hid hX
  have HR0 : Hid (Region ws ws W H a c b b 0) := Lib.hid (fun i j hi hj => by
    have : decide (a ≤ i ∧ i < a + c ∧ b ≤ j ∧ (j < b ∨ j = b ∧ i < 0)) = false := by
      rw [decide_eq_false_iff_not]; omega
    rw [this, Bool.or_false])
  clear h hac hbd hT hX hc hd
  go_enter Try.func32, Try.ntmps32
  go_wp2_with fail
  go_loopw [13] (fun i wr => ∃ (k : Nat) (ws' : List Nat), b ≤ k ∧ k ≤ T ∧ i = .int .i64 k ∧ Hid (BM wr p g ws' W H) ∧ Hid (Region ws ws' W H a c b k 0) ∧ Hid (Mod (fun b => b = g) w wr)) (fun i _ => T - (intOf i).toNat)
  case atStart => exact ⟨b, ws, by omega, by omega, rfl, HH, HR0, Lib.hid (Mod.refl _)⟩
  case round =>
    obtain ⟨k, ws', hbk, hk, rfl, HB, HR, HM⟩ := hrel
    clear HH HR0
    by_cases hlt : k < T
    · have hrow := HB.out.rowSize
      obtain ⟨R, hRe⟩ : ∃ R, R = (W + 31) / 32 := ⟨_, rfl⟩
      have hR2 : R < 1000 := by omega
      rw [← hRe] at hrow
      obtain ⟨m, hm⟩ : ∃ m, m = k * R := ⟨_, rfl⟩
      have em : (k : Int) * (R : Int) = (m : Int) := by rw [hm]; simp
      have hml : m < 1000000 := by rw [hm]; exact Nat.lt_of_le_of_lt (Nat.mul_le_mul (show k ≤ 999 by omega) (show R ≤ 999 by omega)) (by decide)
      have hwm : IntKind.i64.wrap (m : Int) = (m : Int) := by rw [IntKind.wrap_i64]; omega
      have HRE := Lib.hid hRe
      have HMM := Lib.hid hm
      clear hRe hm
      go_wp2_with fail
      clear hrow
      go_loopw [15] (fun i wr => ∃ (x : Nat) (ws' : List Nat), a ≤ x ∧ x ≤ X ∧ i = .int .i64 x ∧ Hid (BM wr p g ws' W H) ∧ Hid (Region ws ws' W H a c b k x) ∧ Hid (Mod (fun b => b = g) w wr)) (fun i _ => X - (intOf i).toNat)
      case atStart =>
        refine ⟨a, ws', by omega, by omega, rfl, HB, Lib.hid (fun i j hi hj => ?_), HM⟩
        rw [HR.out i j hi hj]
        congr 1
        rw [Bool.eq_iff_iff]
        simp only [decide_eq_true_eq]
        omega
      case round =>
        obtain ⟨x, ws', hax, hx, rfl, HB, HR, HM⟩ := hrel
        by_cases hxl : x < X
        · obtain ⟨q, hq⟩ : ∃ q, q = m + x / 32 := ⟨_, rfl⟩
          obtain ⟨r, hr⟩ : ∃ r, r = x % 32 := ⟨_, rfl⟩
          have hat := at_lt (show x < W by omega) (show k < H by omega)
          rw [← HB.out.len, ← HRE.out, ← HMM.out, ← hq] at hat
          have hbits := HB.out.bits
          have hfree := HB.out.free q
          have hw := HB.out.word hat
          have hwx := HB.out.lt _ (nth_mem hat)
          have hr32 : r < 32 := by omega
          have e1 : (x : Int) / 32 = ((x / 32 : Nat) : Int) := by omega
          have e2 : (x : Int) % 32 = (r : Int) := by omega
          have e3 := u32_pow r hr32
          have hp2 : 2 ^ r < 4294967296 := by
            have h1 : 2 ^ r ≤ 2 ^ 31 := Nat.pow_le_pow_right (by omega) (by omega)
            omega
          have e4 := u32_or _ _ hwx hp2
          have hor : nth ws' q ||| 2 ^ r < 4294967296 := by have := Nat.or_lt_two_pow (n := 32) (show nth ws' q < 2 ^ 32 from hwx) (show 2 ^ r < 2 ^ 32 from hp2); omega
          have hR2 := HR.out.set_ HB.out.len (by omega) (by omega) hax (by rw [← HX.out]; exact hxl) hbk
          rw [← HRE.out, ← HMM.out, ← hq, ← hr] at hR2
          have HB2 := Lib.hid (HB.out.set_ q (nth ws' q ||| 2 ^ r) hor)
          have HR2 := Lib.hid hR2
          have HM2 := Lib.hid (HM.out.trans ((Mod.set1 wr g q (.int .u32 ((nth ws' q ||| 2 ^ r : Nat) : Int)))))
          have hq0 : (0 : Int) ≤ (q : Int) := by omega
          have hqN : (q : Int) < (ws'.length : Int) := by omega
          have hqm : (m : Int) + (x : Int) / 32 = (q : Int) := by omega
          have hqb : q < 2000000 := by omega
          have hwq : IntKind.i64.wrap (q : Int) = (q : Int) := by rw [IntKind.wrap_i64]; omega
          have hx0 : (0 : Int) ≤ (x : Int) := by omega
          have hx1 : (x : Int) < (X : Int) := by omega
          clear hR2 HB HR HM hat e1 hq hr hor
          obtain ⟨y, hy⟩ : ∃ y, y = nth ws' q ||| 2 ^ r := ⟨_, rfl⟩
          rw [← hy] at e4 HB2 HR2 HM2
          obtain ⟨P, hP⟩ : ∃ P, P = 2 ^ r := ⟨_, rfl⟩
          rw [← hP] at e3 e4 hp2
          clear hy hP
          go_wp2_with fail
          go_roundw
          case rel => exact ⟨x + 1, _, by omega, by omega, by go_num, HB2, HR2, HM2⟩
          case measure => simp [intOf]; omega
        · obtain rfl : x = X := by omega
          have HR3 : Hid (Region ws ws' W H a c b (k + 1) 0) := Lib.hid (fun i j hi hj => by
            have := HX.out
            rw [HR.out i j hi hj]
            congr 1
            rw [Bool.eq_iff_iff]
            simp only [decide_eq_true_eq]
            omega)
          go_wp2_with fail
          go_roundw
          case rel => exact ⟨k + 1, ws', by omega, by omega, by go_num, HB, HR3, HM⟩
          case measure => simp [intOf]; omega
    · obtain rfl : k = T := by omega
      go_wp2_with fail
      go_ret
      exact ⟨ws', rfl, HB, HR, HM⟩
end Go.Proofs.Ytcfcbcjaiplllaa
