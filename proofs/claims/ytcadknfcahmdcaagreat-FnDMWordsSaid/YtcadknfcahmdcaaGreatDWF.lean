/-
  Floats that count characters: sums, ceilings, as scaled whole numbers (plain). No program in sight.
-/
import Derived.Test.YtcadknfcahmdcaaGreatBase
import Derived.Laws.FloatArith
namespace Go.Qz.DF
open Ieee
set_option linter.unusedVariables false

/-- A word from 1/2 up to 2 ^ 13. -/
def Good (z : Nat) : Prop := 4503599627370496 * 1022 ≤ z ∧ z < 4503599627370496 * 1036
/-- Its value, scaled by 2 ^ 60. -/
def sv (z : Nat) : Nat := (4503599627370496 + z % 4503599627370496) * 2 ^ (z / 4503599627370496 - 1015)
theorem rung_good {z : Nat} (h : Good z) : 1022 ≤ z / 4503599627370496 ∧ z / 4503599627370496 < 1036 := by unfold Good at h; omega
theorem read_good {z : Nat} (h : Good z) : double.read z = .number false (4503599627370496 + z % 4503599627370496) ((z / 4503599627370496 - 1015 : Nat) - 60 : Int) := by
  obtain ⟨h1, h2⟩ := rung_good h
  unfold Good at h
  have e1 : double.signWeight = 9223372036854775808 := by decide
  have e2 : double.binade = 4503599627370496 := by decide
  have e3 : double.infRung = 9218868437227405312 := by decide
  have e4 : double.leastPlace = -1074 := by decide
  unfold Format.read
  simp only [e1, e2, e3, e4]
  rw [show z % 9223372036854775808 = z by omega, show (z / 9223372036854775808 % 2 == 1) = false by rw [show z / 9223372036854775808 = 0 by omega]; rfl, if_neg (by omega), if_pos (by omega)]
  have e5 : (-1074 + ((z / 4503599627370496 - 1 : Nat) : Int)) = ((z / 4503599627370496 - 1015 : Nat) : Int) - 60 := by omega
  rw [e5]
theorem sv_bounds {z : Nat} (h : Good z) : 2 ^ 59 ≤ sv z ∧ sv z < 2 ^ 73 := by
  obtain ⟨h1, h2⟩ := rung_good h
  unfold sv
  have hm : z % 4503599627370496 < 4503599627370496 := Nat.mod_lt _ (by omega)
  constructor
  · have : 2 ^ 7 ≤ 2 ^ (z / 4503599627370496 - 1015) := Nat.pow_le_pow_right (by omega) (by omega)
    calc 2 ^ 59 = 4503599627370496 * 2 ^ 7 := by decide
      _ ≤ _ := Nat.mul_le_mul (by omega) this
  · have : 2 ^ (z / 4503599627370496 - 1015) ≤ 2 ^ 20 := Nat.pow_le_pow_right (by omega) (by omega)
    calc _ ≤ (4503599627370496 + z % 4503599627370496) * 2 ^ 20 := Nat.mul_le_mul (Nat.le_refl _) this
      _ < (2 * 4503599627370496) * 2 ^ 20 := Nat.mul_lt_mul_of_pos_right (by omega) (by decide)
      _ = 2 ^ 73 := by decide
/-- Rounding, in scaled numbers. -/
theorem cut_even (n d : Nat) (hd : d ≤ n.log2 + 2) : ∃ k, Toward.even.cut false n d = k ∧ n / 2 ^ d ≤ k ∧ k ≤ n / 2 ^ d + 1 ∧ 2 * (k * 2 ^ d) ≤ 2 * n + 2 ^ d ∧ 2 * n ≤ 2 * (k * 2 ^ d) + 2 ^ d ∧ (n % 2 ^ d = 0 → k = n / 2 ^ d) := by
  refine ⟨_, rfl, ?_⟩
  unfold Toward.cut
  simp only
  rw [Nat.min_eq_left hd, Nat.one_shiftLeft]
  have h1 := Nat.div_add_mod n (2 ^ d)
  have h2 := Nat.mod_lt n (show 0 < 2 ^ d from Nat.two_pow_pos d)
  obtain ⟨q, hq⟩ : ∃ q, q = n / 2 ^ d := ⟨_, rfl⟩
  obtain ⟨r, hr⟩ : ∃ r, r = n % 2 ^ d := ⟨_, rfl⟩
  obtain ⟨g, hg⟩ : ∃ g, g = 2 ^ d := ⟨_, rfl⟩
  rw [← hq, ← hr, ← hg] at h1
  rw [← hr, ← hg] at h2
  rw [← hq, ← hr, ← hg]
  have e1 : (q + 1) * g = g * q + g := by rw [Nat.add_mul, Nat.one_mul, Nat.mul_comm]
  have e0 : q * g = g * q := Nat.mul_comm _ _
  cases hb : (decide (g < 2 * r) || (g == 2 * r && q % 2 == 1)) with
  | true =>
    rw [show (true : Bool).toNat = 1 from rfl, e1]
    rw [Bool.or_eq_true, decide_eq_true_eq, Bool.and_eq_true, beq_iff_eq] at hb
    refine ⟨by omega, by omega, by omega, by omega, fun h => by omega⟩
  | false =>
    rw [show (false : Bool).toNat = 0 from rfl, Nat.add_zero, e0]
    rw [Bool.or_eq_false_iff, decide_eq_false_iff_not] at hb
    refine ⟨by omega, by omega, by omega, by omega, fun h => rfl⟩
theorem word_small {E k : Nat} (hE : E ≤ 1033) (hk : k ≤ 9007199254740992) : double.word false (min (E * 4503599627370496 + k) 9218868437227405312) = E * 4503599627370496 + k := by
  have h : E * 4503599627370496 + k ≤ 9218868437227405312 := by omega
  rw [Nat.min_eq_left h]
  unfold Format.word
  rw [if_neg Bool.false_ne_true]
theorem good_word {E k : Nat} (h0 : 1021 ≤ E) (hE : E ≤ 1033) (h1 : 4503599627370496 ≤ k) (hk : k ≤ 9007199254740992) : Good (E * 4503599627370496 + k) := by
  unfold Good
  constructor
  · omega
  · omega
theorem sv_word {E k : Nat} (h0 : 1021 ≤ E) (h1 : 4503599627370496 ≤ k) (hk : k ≤ 9007199254740992) : sv (E * 4503599627370496 + k) = k * 2 ^ (E - 1014) := by
  unfold sv
  obtain ⟨j, hj⟩ : ∃ j, k = 4503599627370496 + j := ⟨k - 4503599627370496, by omega⟩
  have hj2 : j ≤ 4503599627370496 := by omega
  clear h1 hk
  generalize 4503599627370496 = B at *
  subst hj
  have e : E * B + (B + j) = j + B * (E + 1) := by rw [Nat.mul_add, Nat.mul_one, Nat.mul_comm E B]; omega
  rw [e, Nat.add_mul_mod_self_left]
  by_cases h0B : B = 0
  · subst h0B
    obtain rfl : j = 0 := by omega
    simp
  rw [Nat.add_mul_div_left _ _ (by omega)]
  by_cases hj : j = B
  · subst hj
    rw [Nat.mod_self, Nat.div_self (by omega), show 1 + (E + 1) - 1015 = E - 1014 + 1 by omega, Nat.pow_succ, Nat.add_zero, Nat.mul_comm (2 ^ (E - 1014)) 2, ← Nat.mul_assoc, Nat.mul_two]
  · rw [Nat.mod_eq_of_lt (by omega), Nat.div_eq_of_lt (by omega), show 0 + (E + 1) - 1015 = E - 1014 by omega]
theorem nearest_spec (m s : Nat) (hm : 0 < m) (h1 : 2 ^ 59 ≤ m * 2 ^ s) (h2 : m * 2 ^ s < 2 ^ 72) :
    Good (double.nearest false m ((s : Int) - 60)) ∧ sv (double.nearest false m ((s : Int) - 60)) ≤ m * 2 ^ s + 2 ^ 19 ∧ m * 2 ^ s ≤ sv (double.nearest false m ((s : Int) - 60)) + 2 ^ 19 ∧ (m * 2 ^ s % 2 ^ 20 = 0 → sv (double.nearest false m ((s : Int) - 60)) = m * 2 ^ s) := by
  have e2 : double.binade = 4503599627370496 := by decide
  have e3 : double.infRung = 9218868437227405312 := by decide
  have e4 : double.leastPlace = -1074 := by decide
  have e5 : double.fractionBits = 52 := rfl
  have hm0 : m ≠ 0 := by omega
  obtain ⟨l, hl⟩ : ∃ l, l = m.log2 := ⟨_, rfl⟩
  have l1 : 2 ^ l ≤ m := by rw [hl]; exact Nat.log2_self_le hm0
  have l2 : m < 2 ^ (l + 1) := by rw [hl]; exact Nat.lt_log2_self
  have b1 : 59 ≤ l + s := by
    have : 2 ^ 59 < 2 ^ (l + 1 + s) := by
      rw [Nat.pow_add]
      exact Nat.lt_of_le_of_lt h1 (Nat.mul_lt_mul_of_pos_right l2 (Nat.two_pow_pos s))
    have := (Nat.pow_lt_pow_iff_right (show 1 < 2 by omega)).1 this
    omega
  have b2 : l + s < 72 := by
    have : 2 ^ (l + s) < 2 ^ 72 := by
      rw [Nat.pow_add]
      exact Nat.lt_of_le_of_lt (Nat.mul_le_mul l1 (Nat.le_refl _)) h2
    exact (Nat.pow_lt_pow_iff_right (show 1 < 2 by omega)).1 this
  unfold Format.nearest
  rw [if_neg hm0]
  simp only [e2, e3, e4, e5, ← hl]
  rw [show max ((s : Int) - 60 + (l : Int) - (52 : Nat)) (-1074) = ((l + s : Nat) : Int) - 112 by omega]
  rw [show (((l + s : Nat) : Int) - 112 - -1074).toNat = l + s + 962 by omega]
  obtain ⟨k, hk, k1, k2, kv1, kv2, kv3⟩ : ∃ k, Toward.even.cut false (m <<< (((s : Int) - 60) - (((l + s : Nat) : Int) - 112)).toNat) ((((l + s : Nat) : Int) - 112) - ((s : Int) - 60)).toNat = k ∧ 2 ^ 52 ≤ k ∧ k ≤ 2 ^ 53 ∧
      k * 2 ^ (l + s - 52) ≤ m * 2 ^ s + 2 ^ 19 ∧ m * 2 ^ s ≤ k * 2 ^ (l + s - 52) + 2 ^ 19 ∧ (m * 2 ^ s % 2 ^ 20 = 0 → k * 2 ^ (l + s - 52) = m * 2 ^ s) := by
    by_cases hg : 52 ≤ l
    · rw [show (((s : Int) - 60) - (((l + s : Nat) : Int) - 112)).toNat = 0 by omega, show ((((l + s : Nat) : Int) - 112) - ((s : Int) - 60)).toNat = l - 52 by omega, Nat.shiftLeft_zero]
      obtain ⟨k, hk, c1, c2, c3, c4, c5⟩ := cut_even m (l - 52) (by rw [← hl]; omega)
      have p1 : 2 ^ l = 2 ^ 52 * 2 ^ (l - 52) := by rw [← Nat.pow_add, show 52 + (l - 52) = l by omega]
      have p2 : 2 ^ (l + 1) = 2 ^ 53 * 2 ^ (l - 52) := by rw [← Nat.pow_add, show 53 + (l - 52) = l + 1 by omega]
      have p3 : 2 ^ (l + s - 52) = 2 ^ (l - 52) * 2 ^ s := by rw [← Nat.pow_add, show l - 52 + s = l + s - 52 by omega]
      have p4 : 2 ^ (l - 52) * 2 ^ s ≤ 2 ^ 20 := by rw [← p3]; exact Nat.pow_le_pow_right (by omega) (by omega)
      have q1 : 2 ^ 52 ≤ m / 2 ^ (l - 52) := by rw [Nat.le_div_iff_mul_le (Nat.two_pow_pos _), ← p1]; exact l1
      have q2 : m / 2 ^ (l - 52) < 2 ^ 53 := by rw [Nat.div_lt_iff_lt_mul (Nat.two_pow_pos _), ← p2]; exact l2
      refine ⟨k, hk, by omega, by omega, ?_, ?_, fun h => ?_⟩
      · rw [p3]
        have := Nat.mul_le_mul_right (2 ^ s) c3
        simp only [Nat.add_mul, Nat.mul_assoc] at this
        clear h1 h2 l1 l2 p1 p2 q1 q2
        omega
      · rw [p3]
        have := Nat.mul_le_mul_right (2 ^ s) c4
        simp only [Nat.add_mul, Nat.mul_assoc] at this
        clear h1 h2 l1 l2 p1 p2 q1 q2
        omega
      · have hdv : 2 ^ (l - 52) ∣ m := by
          have h20 : 2 ^ (l - 52) * 2 ^ s ∣ m * 2 ^ s := by
            rw [← p3]
            exact Nat.dvd_trans (Nat.pow_dvd_pow 2 (show l + s - 52 ≤ 20 by omega)) (Nat.dvd_of_mod_eq_zero h)
          exact Nat.dvd_of_mul_dvd_mul_right (Nat.two_pow_pos s) h20
        rw [c5 (Nat.mod_eq_zero_of_dvd hdv), p3, ← Nat.mul_assoc, Nat.div_mul_cancel hdv]
    · rw [show (((s : Int) - 60) - (((l + s : Nat) : Int) - 112)).toNat = 52 - l by omega, show ((((l + s : Nat) : Int) - 112) - ((s : Int) - 60)).toNat = 0 by omega, Nat.shiftLeft_eq]
      obtain ⟨k, hk, c1, c2, c3, c4, c5⟩ := cut_even (m * 2 ^ (52 - l)) 0 (Nat.zero_le _)
      have hk2 := c5 (by rw [Nat.pow_zero]; exact Nat.mod_one _)
      rw [Nat.pow_zero, Nat.div_one] at hk2
      have p1 : m * 2 ^ (52 - l) * 2 ^ (l + s - 52) = m * 2 ^ s := by rw [Nat.mul_assoc, ← Nat.pow_add, show 52 - l + (l + s - 52) = s by omega]
      refine ⟨k, hk, ?_, ?_, by rw [hk2, p1]; omega, by rw [hk2, p1]; omega, fun _ => by rw [hk2, p1]⟩
      · rw [hk2, show (2 : Nat) ^ 52 = 2 ^ l * 2 ^ (52 - l) by rw [← Nat.pow_add, show l + (52 - l) = 52 by omega]]
        exact Nat.mul_le_mul_right _ l1
      · rw [hk2, show (2 : Nat) ^ 53 = 2 ^ (l + 1) * 2 ^ (52 - l) by rw [← Nat.pow_add, show l + 1 + (52 - l) = 53 by omega]]
        exact Nat.mul_le_mul_right _ (Nat.le_of_lt l2)
  rw [hk]
  have kb1 : 4503599627370496 ≤ k := k1
  have kb2 : k ≤ 9007199254740992 := k2
  rw [word_small (by omega) kb2, sv_word (by omega) kb1 kb2, show l + s + 962 - 1014 = l + s - 52 by omega]
  exact ⟨good_word (by omega) (by omega) kb1 kb2, kv1, kv2, kv3⟩
theorem add_good {x y : Nat} (hx : Good x) (hy : Good y) (h : sv x + sv y < 2 ^ 72) : ∃ z, double.add x y = some z ∧ Good z ∧ sv z ≤ sv x + sv y + 2 ^ 19 ∧ sv x + sv y ≤ sv z + 2 ^ 19 ∧ ((sv x + sv y) % 2 ^ 20 = 0 → sv z = sv x + sv y) := by
  have bx := (sv_bounds hx).1
  unfold Format.add
  rw [read_good hx, read_good hy]
  unfold sv at h bx ⊢
  obtain ⟨ex, hex⟩ : ∃ ex, ex = x / 4503599627370496 - 1015 := ⟨_, rfl⟩
  obtain ⟨ey, hey⟩ : ∃ ey, ey = y / 4503599627370496 - 1015 := ⟨_, rfl⟩
  obtain ⟨mx, hmx⟩ : ∃ mx, mx = 4503599627370496 + x % 4503599627370496 := ⟨_, rfl⟩
  obtain ⟨my, hmy⟩ : ∃ my, my = 4503599627370496 + y % 4503599627370496 := ⟨_, rfl⟩
  have hm0 : 0 < mx := by omega
  rw [← hex, ← hmx, ← hey, ← hmy] at h ⊢
  rw [← hex, ← hmx] at bx
  clear hex hey hmx hmy hx hy
  obtain ⟨b, hb⟩ : ∃ b, b = min ex ey := ⟨_, rfl⟩
  have e1 : min ((ex : Int) - 60) ((ey : Int) - 60) = (b : Int) - 60 := by omega
  have e2 : ((ex : Int) - 60 - ((b : Int) - 60)).toNat = ex - b := by omega
  have e3 : ((ey : Int) - 60 - ((b : Int) - 60)).toNat = ey - b := by omega
  have hbx : b ≤ ex := by omega
  have hby : b ≤ ey := by omega
  obtain ⟨m, hm⟩ : ∃ m, m = mx * 2 ^ (ex - b) + my * 2 ^ (ey - b) := ⟨_, rfl⟩
  have hV : m * 2 ^ b = mx * 2 ^ ex + my * 2 ^ ey := by
    rw [hm, Nat.add_mul, Nat.mul_assoc, Nat.mul_assoc, ← Nat.pow_add, ← Nat.pow_add, Nat.sub_add_cancel hbx, Nat.sub_add_cancel hby]
  have hmp : 0 < m := by
    rw [hm]
    exact Nat.lt_of_lt_of_le (Nat.mul_pos hm0 (Nat.two_pow_pos _)) (Nat.le_add_right _ _)
  have hsum : (Datum.number false mx ((ex : Int) - 60)).sum (Datum.number false my ((ey : Int) - 60)) = some (.number false m ((b : Int) - 60)) := by
    unfold Datum.sum
    simp only [e1, e2, e3, signed, Nat.shiftLeft_eq, Bool.false_eq_true, if_false, Bool.false_and]
    rw [← Int.natCast_add, ← hm]
    have c1 : ((m : Int) = 0) = False := by simp; omega
    have c2 : decide ((m : Int) < 0) = false := by simp
    simp only [c1, if_false, c2, Int.natAbs_natCast]
  rw [hsum]
  have hlo : 2 ^ 59 ≤ m * 2 ^ b := by rw [hV]; exact Nat.le_trans bx (Nat.le_add_right _ (my * 2 ^ ey))
  have hhi : m * 2 ^ b < 2 ^ 72 := by rw [hV]; exact h
  obtain ⟨s1, s2, s3, s4⟩ := nearest_spec m b hmp hlo hhi
  unfold sv at s2 s3 s4
  rw [hV] at s2 s3 s4
  exact ⟨_, rfl, s1, s2, s3, s4⟩
/-- The ceiling of a word. -/
def ceilN (z : Nat) : Nat := Toward.up.cut false (4503599627370496 + z % 4503599627370496) (60 - (z / 4503599627370496 - 1015))
theorem ceilN_spec {z : Nat} (h : Good z) : sv z ≤ ceilN z * 2 ^ 60 ∧ ceilN z * 2 ^ 60 < sv z + 2 ^ 60 := by
  obtain ⟨h1, h2⟩ := rung_good h
  unfold sv ceilN
  have hm : z % 4503599627370496 < 4503599627370496 := Nat.mod_lt _ (by omega)
  obtain ⟨e, he⟩ : ∃ e, e = z / 4503599627370496 - 1015 := ⟨_, rfl⟩
  rw [← he]
  obtain ⟨m, hme⟩ : ∃ m, m = 4503599627370496 + z % 4503599627370496 := ⟨_, rfl⟩
  rw [← hme]
  have hl : 52 ≤ m.log2 := by rw [Nat.le_log2 (by omega)]; show 4503599627370496 ≤ m; omega
  have he1 : 7 ≤ e ∧ e ≤ 20 := by omega
  clear h h1 h2 hm he hme
  unfold Toward.cut
  simp only
  rw [Nat.min_eq_left (by omega), Nat.one_shiftLeft]
  have p : 2 ^ 60 = 2 ^ (60 - e) * 2 ^ e := by rw [← Nat.pow_add, show 60 - e + e = 60 by omega]
  rw [p, ← Nat.mul_assoc]
  obtain ⟨g, hg⟩ : ∃ g, g = 2 ^ (60 - e) := ⟨_, rfl⟩
  have hg0 : 0 < g := by rw [hg]; exact Nat.two_pow_pos _
  rw [← hg]
  have hd := Nat.div_add_mod m g
  have hr := Nat.mod_lt m hg0
  obtain ⟨q, hq⟩ : ∃ q, q = m / g := ⟨_, rfl⟩
  obtain ⟨r, hr2⟩ : ∃ r, r = m % g := ⟨_, rfl⟩
  rw [← hq, ← hr2] at hd
  rw [← hr2] at hr
  rw [← hq, ← hr2]
  have hp := Nat.two_pow_pos e
  have key : m ≤ (q + (!false && r != 0).toNat) * g ∧ (q + (!false && r != 0).toNat) * g < m + g := by
    by_cases h0 : r = 0
    · subst h0
      simp only [bne_self_eq_false, Bool.and_false, Bool.toNat_false, Nat.add_zero]
      rw [Nat.mul_comm q g]; omega
    · have : (!false && r != 0) = true := by simp [h0]
      rw [this, Bool.toNat_true, Nat.add_mul, Nat.one_mul, Nat.mul_comm q g]; omega
  constructor
  · exact Nat.mul_le_mul_right _ key.1
  · rw [← Nat.add_mul]
    exact Nat.mul_lt_mul_of_pos_right key.2 hp
theorem integral_good {z : Nat} (h : Good z) : (double.read z).integral .up = .number false (ceilN z) 0 := by
  obtain ⟨h1, h2⟩ := rung_good h
  rw [read_good h]
  unfold Datum.integral ceilN
  simp only
  rw [show (((z / 4503599627370496 - 1015 : Nat) : Int) - 60).toNat = 0 by omega, show (-(((z / 4503599627370496 - 1015 : Nat) : Int) - 60)).toNat = 60 - (z / 4503599627370496 - 1015) by omega, Nat.shiftLeft_zero]
theorem nearest_int {c : Nat} (h1 : 1 ≤ c) (h2 : c < 4096) : Good (double.nearest false c 0) ∧ sv (double.nearest false c 0) = c * 2 ^ 60 := by
  have l1 : 2 ^ 59 ≤ c * 2 ^ 60 := by
    calc 2 ^ 59 ≤ 1 * 2 ^ 60 := by decide
      _ ≤ _ := Nat.mul_le_mul_right _ h1
  have l2 : c * 2 ^ 60 < 2 ^ 72 := by
    calc c * 2 ^ 60 < 4096 * 2 ^ 60 := Nat.mul_lt_mul_of_pos_right h2 (by decide)
      _ = 2 ^ 72 := by decide
  obtain ⟨s1, _, _, s4⟩ := nearest_spec c 60 h1 l1 l2
  rw [show ((60 : Nat) : Int) - 60 = 0 from rfl] at s1 s4
  refine ⟨s1, s4 ?_⟩
  rw [show (2 : Nat) ^ 60 = 2 ^ 40 * 2 ^ 20 by decide, ← Nat.mul_assoc, Nat.mul_mod_left]
theorem toInt_good {z : Nat} (h : Good z) : (double.read z).toInt .zero = some ((sv z / 2 ^ 60 : Nat) : Int) := by
  obtain ⟨h1, h2⟩ := rung_good h
  rw [read_good h]
  unfold sv
  have hm : z % 4503599627370496 < 4503599627370496 := Nat.mod_lt _ (by omega)
  obtain ⟨e, he⟩ : ∃ e, e = z / 4503599627370496 - 1015 := ⟨_, rfl⟩
  rw [← he]
  obtain ⟨m, hme⟩ : ∃ m, m = 4503599627370496 + z % 4503599627370496 := ⟨_, rfl⟩
  rw [← hme]
  have hl : 52 ≤ m.log2 := by rw [Nat.le_log2 (by omega)]; show 4503599627370496 ≤ m; omega
  have he1 : 7 ≤ e ∧ e ≤ 20 := by omega
  clear h h1 h2 hm he hme
  unfold Datum.toInt Datum.integral Toward.cut signed
  simp only
  rw [show ((e : Int) - 60).toNat = 0 by omega, show (-((e : Int) - 60)).toNat = 60 - e by omega]
  simp only [Nat.shiftLeft_zero]
  rw [Nat.min_eq_left (by omega), Nat.one_shiftLeft]
  have p : 2 ^ 60 = 2 ^ (60 - e) * 2 ^ e := by rw [← Nat.pow_add, show 60 - e + e = 60 by omega]
  rw [p, Nat.mul_div_mul_right _ _ (Nat.two_pow_pos e)]
  simp
/-- A count's word: zero, or from 1/2 on; its value, scaled. -/
def OkW (z : Nat) : Prop := z = 0 ∨ Good z
def val (z : Nat) : Nat := if z = 0 then 0 else sv z
theorem val_good {z : Nat} (h : Good z) : val z = sv z := by unfold val; rw [if_neg (by unfold Good at h; omega)]
/-- The ceiling's word, and its number. -/
def ceilC (z : Nat) : Nat := if z = 0 then 0 else ceilN z
def ceilW (z : Nat) : Nat := double.nearest false (ceilC z) 0
theorem zero_word : double.nearest false 0 0 = 0 := by decide +kernel
theorem zero_integral : (double.read 0).integral .up = .number false 0 0 := by decide +kernel
theorem integral_ok {z : Nat} (h : OkW z) : (double.read z).integral .up = .number false (ceilC z) 0 := by
  rcases h with rfl | h
  · exact zero_integral
  · unfold ceilC; rw [if_neg (by unfold Good at h; omega)]; exact integral_good h
theorem ceilC_spec {z : Nat} (h : OkW z) : val z ≤ ceilC z * 2 ^ 60 ∧ ceilC z * 2 ^ 60 < val z + 2 ^ 60 := by
  rcases h with rfl | h
  · exact ⟨Nat.le_refl _, by decide⟩
  · have hz : z ≠ 0 := by unfold Good at h; omega
    unfold val ceilC; rw [if_neg hz, if_neg hz]; exact ceilN_spec h
theorem ceilW_ok {z : Nat} (h : OkW z) (hb : val z ≤ 4095 * 2 ^ 60) : OkW (ceilW z) ∧ val (ceilW z) = ceilC z * 2 ^ 60 := by
  obtain ⟨c1, c2⟩ := ceilC_spec h
  have hc : ceilC z < 4096 := by
    have : ceilC z * 2 ^ 60 < 4096 * 2 ^ 60 := Nat.lt_of_lt_of_le c2 (by omega)
    exact Nat.lt_of_mul_lt_mul_right this
  unfold ceilW
  rcases Nat.eq_zero_or_pos (ceilC z) with h0 | h0
  · rw [h0, zero_word]; exact ⟨.inl rfl, by decide⟩
  · obtain ⟨g1, g2⟩ := nearest_int h0 hc
    exact ⟨.inr g1, by rw [val_good g1, g2]⟩
/-- The ceiling as an integer. -/
theorem ceil_toInt {z : Nat} (h : OkW z) (hb : val z ≤ 4095 * 2 ^ 60) : (double.read (ceilW z)).toInt .zero = some ((ceilC z : Nat) : Int) := by
  obtain ⟨g, gv⟩ := ceilW_ok h hb
  rcases g with g | g
  · have h0 : ceilC z * 2 ^ 60 = 0 := by rw [← gv, g]; rfl
    have h1 : ceilC z = 0 := by
      rcases Nat.mul_eq_zero.1 h0 with h | h
      · exact h
      · cases h
    rw [g, h1]; decide +kernel
  · rw [toInt_good g, ← val_good g, gv, Nat.mul_div_cancel _ (by decide)]
/-- The constants: 1/2, 1, 2, 2/3, 4/3, 10/3, 3/4, 13/4. -/
def consts : List Nat := [4602678819172646912, 4607182418800017408, 4611686018427387904, 4604180019048437077, 4608683618675807573, 4614688418178968235, 4604930618986332160, 4614500768194494464]
theorem consts_ok : (consts.all fun y => decide (4503599627370496 * 1022 ≤ y) && decide (y < 4503599627370496 * 1036) && (double.add 0 y == some y)) = true := by decide +kernel
theorem const_good {y : Nat} (h : y ∈ consts) : Good y ∧ double.add 0 y = some y := by
  have := List.all_eq_true.1 consts_ok y h
  simp only [Bool.and_eq_true, decide_eq_true_eq, beq_iff_eq] at this
  exact ⟨⟨this.1.1, this.1.2⟩, this.2⟩
theorem add_ok {x y : Nat} (hx : OkW x) (hy : y ∈ consts) (h : val x + sv y < 2 ^ 72) : ∃ z, double.add x y = some z ∧ Good z ∧ val z ≤ val x + sv y + 2 ^ 19 ∧ val x + sv y ≤ val z + 2 ^ 19 ∧ ((val x + sv y) % 2 ^ 20 = 0 → val z = val x + sv y) := by
  obtain ⟨g, g0⟩ := const_good hy
  rcases hx with rfl | hx
  · have e : val 0 = 0 := rfl
    refine ⟨y, g0, g, ?_, ?_, fun _ => ?_⟩
    · rw [val_good g, e, Nat.zero_add]; exact Nat.le_add_right _ _
    · rw [val_good g, e, Nat.zero_add]; exact Nat.le_add_right _ _
    · rw [val_good g, e, Nat.zero_add]
  · rw [val_good hx] at h ⊢
    obtain ⟨z, z1, z2, z3, z4, z5⟩ := add_good hx g h
    refine ⟨z, z1, z2, ?_, ?_, ?_⟩
    · rw [val_good z2]; exact z3
    · rw [val_good z2]; exact z4
    · rw [val_good z2]; exact z5
end Go.Qz.DF
