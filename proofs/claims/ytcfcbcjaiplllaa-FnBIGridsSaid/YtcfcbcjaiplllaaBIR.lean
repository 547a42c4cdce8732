/-
  FnBIRanges: whether all bits of a range are alike. The walks and the law. No condition.
-/
import Derived.Test.YtcfcbcjaiplllaaBA
import Derived.Deep.DeepCutAuto
import Derived.Deep.LoopGhost
namespace Go.Proofs.Ytcfcbcjaiplllaa
open Go.RowKit Go.Qz
set_option linter.unusedVariables false

/-- The bits from fb to lb. -/
def mask (fb lb : Nat) : Nat := 2 ^ (lb + 1) - 2 ^ fb
theorem mask_bit (fb lb r : Nat) (h : fb ≤ lb) : (mask fb lb).testBit r = decide (fb ≤ r ∧ r ≤ lb) := by
  have e : mask fb lb = (2 ^ (lb + 1 - fb) - 1) <<< fb := by
    unfold mask
    rw [Nat.shiftLeft_eq, Nat.sub_mul, ← Nat.pow_add, show lb + 1 - fb + fb = lb + 1 by omega, Nat.one_mul]
  rw [e, Nat.testBit_shiftLeft, Nat.testBit_two_pow_sub_one, Bool.eq_iff_iff]
  simp; omega
theorem mask_lt (fb lb : Nat) (h : lb ≤ 31) : mask fb lb < 4294967296 := by
  unfold mask
  have h1 : 2 ^ (lb + 1) ≤ 2 ^ 32 := Nat.pow_le_pow_right (by omega) (by omega)
  have h2 : 0 < 2 ^ fb := Nat.pow_pos (by decide)
  omega
/-- A word's bits from fb to lb are all v. -/
theorem word_all (x fb lb : Nat) (v : Bool) (h : fb ≤ lb) : (x &&& mask fb lb = if v then mask fb lb else 0) ↔ ∀ r, fb ≤ r → r ≤ lb → x.testBit r = v := by
  constructor
  · intro he r h1 h2
    have := congrArg (fun y => y.testBit r) he
    simp only [Nat.testBit_and, mask_bit fb lb r h, h1, h2, and_self, decide_true, Bool.and_true] at this
    rw [this]
    cases v
    · simp
    · simp [mask_bit fb lb r h, h1, h2]
  · intro ha
    apply Nat.eq_of_testBit_eq
    intro r
    rw [Nat.testBit_and, mask_bit fb lb r h]
    by_cases hr : fb ≤ r ∧ r ≤ lb
    · rw [ha r hr.1 hr.2]
      cases v <;> simp [hr, mask_bit fb lb r h]
    · cases v <;> simp [hr, mask_bit fb lb r h]

def allBits (ws : List Nat) (s e : Nat) (v : Bool) : Bool := decide (∀ i, i < e → s ≤ i → bit ws i = v)

set_option maxRecDepth 100000 in
set_option maxHeartbeats 1600000 in
theorem ba_isRange (S E : Int) (s e : Nat) (v : Bool) (hS : S = s) (hE : E = e) (p g n : Nat) (ws : List Nat) (w : World) (h : BA w p g ws n) (hl : ws.length = (n + 31) / 32) (hn : n < 1000000000) (hse : s < e) (hen : e ≤ n) :
    Calls Try.prog 21 #[.pointer (some ⟨p, 0, none⟩), .int .i64 S, .int .i64 E, .bool v] w fun r w' => r = .returned (.tuple #[.bool (allBits ws s e v), .nilIface]) ∧ w = w' := by
  have h0 : 0 ≤ S := by omega
  have h1 : S < E := by omega
  have h2 : E ≤ n := by omega
  have hE2 : E < 1000000000 := by omega
  obtain ⟨q1, hq1⟩ : ∃ q, q = s / 32 := ⟨_, rfl⟩
  obtain ⟨r1, hr1⟩ : ∃ q, q = s % 32 := ⟨_, rfl⟩
  obtain ⟨q2, hq2⟩ : ∃ q, q = (e - 1) / 32 := ⟨_, rfl⟩
  obtain ⟨r2, hr2⟩ : ∃ q, q = (e - 1) % 32 := ⟨_, rfl⟩
  have e1 : S / 32 = (q1 : Int) := by omega
  have e2 : S % 32 = (r1 : Int) := by omega
  have e3 : (E - 1) / 32 = (q2 : Int) := by omega
  have e4 : (E - 1) % 32 = (r2 : Int) := by omega
  have hr1l : r1 < 32 := by omega
  have hr2l : r2 < 32 := by omega
  have hq12 : q1 ≤ q2 := by omega
  have hq2l : q2 < ws.length := by omega
  have hsize := h.size
  have hbits := h.bits
  have HS := Lib.hid (show s = 32 * q1 + r1 by omega)
  have HE := Lib.hid (show e = 32 * q2 + r2 + 1 by omega)
  have hb1 : (E < S) = False := by simp; omega
  have hb2 : (S < 0) = False := by simp; omega
  have hb3 : ((n : Int) < E) = False := by simp; omega
  have hb4 : (E == S) = false := by simp; omega
  have HL := Lib.hid hl
  have E1 := Lib.hid e1
  have E2 := Lib.hid e2
  have E3 := Lib.hid e3
  have E4 := Lib.hid e4
  clear hS hE hq1 hq2 hr1 hr2 hl e1 e2 e3 e4
  go_enter Try.func21, Try.ntmps21
  go_wp2_with fail
  go_loop [12] (fun i => ∃ q : Nat, q1 ≤ q ∧ q ≤ q2 + 1 ∧ i = .int .i64 (q : Int) ∧ Hid (∀ i, i < 32 * q → i < e → s ≤ i → bit ws i = v)) (fun i => q2 + 1 - (intOf i).toNat)
  case atStart => exact ⟨q1, by omega, by omega, by rw [E1.out], Lib.hid (by have := HS.out; intro i _ _ _; omega)⟩
  case round =>
    obtain ⟨q, hqa, hqb, rfl, hall⟩ := hrel
    by_cases hq : q ≤ q2
    · have hword := h.word (show q < ws.length by omega)
      have hx := h.lt _ (nth_mem (show q < ws.length by omega))
      have hqE : (q : Int) ≤ (E - 1) / 32 := by rw [E3.out]; omega
      go_upto_if 50 with (fail)
      go_cut [13] (fun a wx => ∃ fb : Nat, w = wx ∧ a = .int .i64 fb ∧ fb ≤ 31 ∧ Hid (fb = if q = q1 then r1 else 0))
      case first =>
        by_cases hf : (q : Int) = q1
        · have hf1 : ((q : Int) == S / 32) = true := by rw [E1.out]; simp; omega
          have HF := Lib.hid hf
          clear hf
          go_wp2_with fail
          go_meet
          case rel => exact ⟨r1, rfl, by rw [E2.out], by omega, Lib.hid (by rw [if_pos (by have := HF.out; omega)])⟩
        · have hf1 : ((q : Int) == S / 32) = false := by rw [E1.out]; simp; omega
          go_wp2_with fail
          go_meet
          case rel => exact ⟨0, rfl, rfl, by omega, Lib.hid (by rw [if_neg (by omega)])⟩
      case rest =>
        obtain ⟨fb, rfl, rfl, hfb, HFB⟩ := hcut
        go_upto_if 55 with (fail)
        go_cut [14] (fun a wx => ∃ lb : Nat, w = wx ∧ a = .int .i64 lb ∧ lb ≤ 31 ∧ Hid (lb = if q = q2 then r2 else 31))
        case first =>
          by_cases hf : (q : Int) = q2
          · have hf1 : ((q : Int) == (E - 1) / 32) = true := by rw [E3.out]; simp; omega
            have HF := Lib.hid hf
            clear hf
            go_wp2_with fail
            go_meet
            case rel => exact ⟨r2, rfl, by rw [E4.out], by omega, Lib.hid (by rw [if_pos (by have := HF.out; omega)])⟩
          · have hf1 : ((q : Int) == (E - 1) / 32) = false := by rw [E3.out]; simp; omega
            go_wp2_with fail
            go_meet
            case rel => exact ⟨31, rfl, rfl, by omega, Lib.hid (by rw [if_neg (by omega)])⟩
        case rest =>
          obtain ⟨lb, rfl, rfl, hlb, HLB⟩ := hcut
          have hfl : fb ≤ lb := by
            have h1 := HFB.out
            have h2 := HLB.out
            have h3 := HS.out
            have h4 := HE.out
            split at h1 <;> split at h2 <;> omega
          have em : ((2 : Int) * 2 ^ lb - 2 ^ fb) % 4294967296 = ((mask fb lb : Nat) : Int) := by
            have h1 := mask_lt fb lb hlb
            have h2 : 2 ^ fb ≤ 2 ^ (lb + 1) := Nat.pow_le_pow_right (by omega) (by omega)
            have h3 : (2 : Int) * 2 ^ lb - 2 ^ fb = ((mask fb lb : Nat) : Int) := by
              unfold mask
              have e1 : ((2 ^ lb : Nat) : Int) = (2 : Int) ^ lb := by simp
              have e2 : ((2 ^ fb : Nat) : Int) = (2 : Int) ^ fb := by simp
              rw [← e1, ← e2]
              rw [Nat.pow_succ] at h2 ⊢
              generalize 2 ^ lb = a at *
              generalize 2 ^ fb = b at *
              omega
            rw [h3]
            omega
          have ea := u32_and _ _ hx (mask_lt fb lb hlb)
          have hwa := word_all (nth ws q) fb lb v hfl
          have hbits' : ∀ i, 32 * q ≤ i → i < 32 * (q + 1) → i < e → s ≤ i → fb ≤ i % 32 ∧ i % 32 ≤ lb ∧ bit ws i = (nth ws q).testBit (i % 32) := by
            intro i i1 i2 i3 i4
            have h1 := HFB.out
            have h2 := HLB.out
            have h3 := HS.out
            have h4 := HE.out
            refine ⟨?_, ?_, ?_⟩
            · split at h1 <;> omega
            · split at h2 <;> omega
            · unfold bit; rw [show i / 32 = q by omega]
          have hback : ∀ r, fb ≤ r → r ≤ lb → s ≤ 32 * q + r ∧ 32 * q + r < e ∧ bit ws (32 * q + r) = (nth ws q).testBit r := by
            intro r i1 i2
            have h1 := HFB.out
            have h2 := HLB.out
            have h3 := HS.out
            have h4 := HE.out
            refine ⟨?_, ?_, ?_⟩
            · split at h1 <;> omega
            · split at h2 <;> omega
            · unfold bit; rw [show (32 * q + r) / 32 = q by omega, show (32 * q + r) % 32 = r by omega]
          have HB := Lib.hid hbits'
          have HBK := Lib.hid hback
          have HWA := Lib.hid hwa
          clear hbits' hback hwa h
          generalize nth ws q &&& mask fb lb = X at *
          generalize mask fb lb = M at *
          by_cases hok : ∀ r, fb ≤ r → r ≤ lb → (nth ws q).testBit r = v
          · have hX := HWA.out.2 hok
            have HOK := Lib.hid hok
            clear hok
            have hc1 : v = true → (((X : Nat) : Int) != (M : Int)) = false := by
              intro hv; rw [hX, hv]; simp
            have hc2 : v = false → (((X : Nat) : Int) != 0) = false := by
              intro hv; rw [hX, hv]; rfl
            clear hX
            cases v
            all_goals
              have hc1' := Lib.hid hc1
              have hc2' := Lib.hid hc2
              clear hc1 hc2
              first | have hc := hc1'.out rfl | have hc := hc2'.out rfl
              go_wp2_with fail
              go_round
              case rel =>
                refine ⟨q + 1, by omega, by omega, by go_num, Lib.hid (fun i i1 i2 i3 => ?_)⟩
                by_cases hi : i < 32 * q
                · exact hall.out i hi i2 i3
                · have := HB.out i (by omega) i1 i2 i3
                  rw [this.2.2]
                  exact HOK.out _ this.1 this.2.1
              case measure => simp [intOf]; omega
          · have hX : ¬ (X = if v then M else 0) := fun hh => hok (HWA.out.1 hh)
            have hres : allBits ws s e v = false := by
              unfold allBits
              rw [decide_eq_false_iff_not]
              intro hh
              apply hok
              intro r r1 r2
              have := HBK.out r r1 r2
              rw [← this.2.2]
              exact hh _ this.2.1 this.1
            have HRES := Lib.hid hres
            have hc1 : v = true → (((X : Nat) : Int) != (M : Int)) = true := by
              intro hv; rw [hv] at hX; rw [bne_iff_ne]; simp at hX; omega
            have hc2 : v = false → (((X : Nat) : Int) != 0) = true := by
              intro hv; rw [hv] at hX; rw [bne_iff_ne]; simp at hX; omega
            clear hX hok hres
            cases v
            all_goals
              have hc1' := Lib.hid hc1
              have hc2' := Lib.hid hc2
              clear hc1 hc2
              first | have hc := hc1'.out rfl | have hc := hc2'.out rfl
              go_wp2_with fail
              go_ret2
              rw [HRES.out]
              exact ⟨rfl, rfl⟩
    · have hqE : (E - 1) / 32 < (q : Int) := by rw [E3.out]; omega
      have hres : allBits ws s e v = true := by
        unfold allBits
        rw [decide_eq_true_iff]
        intro i i1 i2
        have := HE.out
        exact hall.out i (by omega) i1 i2
      have HRES := Lib.hid hres
      clear hres
      go_wp2_with fail
      go_ret2
      rw [HRES.out]
      exact ⟨rfl, rfl⟩
end Go.Proofs.Ytcfcbcjaiplllaa
