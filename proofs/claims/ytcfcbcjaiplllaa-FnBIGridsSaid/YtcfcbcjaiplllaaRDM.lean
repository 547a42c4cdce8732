
/-
  BitMatrix: Get, GetWidth, GetHeight, rowsOf, GetTopLeftOnBit, GetBottomRightOnBit, walked. No condition beyond the bounds that each theorem states.
-/
import Derived.Test.YtcfcbcjaiplllaaRDL
import Derived.Test.YtcfcbcjaiplllaaGRD
import Derived.BigQuiet
namespace Go.Proofs.Ytcfcbcjaiplllaa
open Go.RowKit Go.Qz
set_option linter.unusedVariables false

theorem shr_bit (x r : Nat) (hx : x < 4294967296) : (bits .and .u32 ((x : Int) / 2 ^ r) 1 != 0) = x.testBit r := by
  have e : (x : Int) / 2 ^ r = ((x / 2 ^ r : Nat) : Int) := by simp
  have h1 : x / 2 ^ r < 4294967296 := Nat.lt_of_le_of_lt (Nat.div_le_self _ _) hx
  rw [e, show (1 : Int) = ((1 : Nat) : Int) from rfl, u32_and _ _ h1 (by decide), Nat.and_one_is_mod, Nat.testBit_eq_decide_div_mod_eq]
  rw [Bool.eq_iff_iff]
  simp only [bne_iff_ne, ne_eq, decide_eq_true_eq]
  omega
set_option maxRecDepth 100000 in
set_option maxHeartbeats 800000 in
theorem bm_get (I J : Int) (i j : Nat) (hI : I = i) (hJ : J = j) (p g W H : Nat) (ws : List Nat) (w : World) (h : BM w p g ws W H) (hi : i < W) (hj : j < H) (hW : W < 100000) (hH : H < 100000) :
    Calls Try.prog 64 #[.pointer (some ⟨p, 0, none⟩), .int .i64 I, .int .i64 J] w fun e w' => e = .returned (.bool (mb ws W i j)) ∧ w = w' := by
  unfold mb
  have hat := at_lt hi hj
  have hlen := h.len
  have hrow := h.rowSize
  have hwid := h.width
  have hhei := h.height
  obtain ⟨R, hR⟩ : ∃ R, R = (W + 31) / 32 := ⟨_, rfl⟩
  have hR2 : R < 100000 := by omega
  have hjR : j * R < 10000000000 := Nat.lt_of_le_of_lt (Nat.mul_le_mul (show j ≤ 99999 by omega) (show R ≤ 99999 by omega)) (by decide)
  rw [← hR] at hat hlen hrow ⊢
  obtain ⟨jr, hjr⟩ : ∃ jr, jr = j * R := ⟨_, rfl⟩
  rw [← hjr] at hat hjR ⊢
  obtain ⟨q, hq⟩ : ∃ q, q = jr + i / 32 := ⟨_, rfl⟩
  obtain ⟨r, hr⟩ : ∃ r, r = i % 32 := ⟨_, rfl⟩
  rw [← hq] at hat ⊢
  rw [← hr]
  have e0 : J * (R : Int) = (jr : Int) := by rw [hJ, hjr]; simp
  have e1 : (jr : Int) + I / 32 = (q : Int) := by omega
  have e2 : I % 32 = (r : Int) := by omega
  have hr32 : r < 32 := by omega
  have hi0 : 0 ≤ I := by omega
  have hi1 : I < (W : Int) := by omega
  have hj0' : 0 ≤ J := by omega
  have hj1' : J < (H : Int) := by omega
  have hq0 : (0 : Int) ≤ (q : Int) := by omega
  have hql : q < ws.length := by omega
  have hq1 : (q : Int) < (ws.length : Int) := by omega
  have hqb : q < 100000000000 := by omega
  have hj0 : (0 : Int) ≤ (jr : Int) := by omega
  have hj1 : (jr : Int) < 10000000000 := by omega
  have hwr : IntKind.i64.wrap (jr : Int) = (jr : Int) := by rw [IntKind.wrap_i64]; omega
  have hw := h.word hql
  have hx := h.lt _ (nth_mem hql)
  have hbits := h.bits
  have HL := Lib.hid hlen
  have q1 : decide (I < 0) = false := by simp; omega
  have q2 : decide ((W : Int) ≤ I) = false := by simp; omega
  have q3 : decide (J < 0) = false := by simp; omega
  have q4 : decide ((H : Int) ≤ J) = false := by simp; omega
  obtain ⟨x, hxe⟩ : ∃ x, x = nth ws q := ⟨_, rfl⟩
  rw [← hxe] at hw hx ⊢
  have e6 := shr_bit x r hx
  clear hq hr hI hJ hjr hR hat hlen h hjR hxe
  go_enter Try.func64, Try.ntmps64
  go_wp2_with fail
  go_ret
  exact ⟨rfl, rfl⟩

set_option maxRecDepth 100000 in
theorem bm_width (p g W H : Nat) (ws : List Nat) (w : World) (h : BM w p g ws W H) : Calls Try.prog 39 #[.pointer (some ⟨p, 0, none⟩)] w fun e w' => e = .returned (.int .i64 W) ∧ w = w' := by
  have h1 := h.width
  clear h
  go_enter Try.func39, Try.ntmps39
  go_wp2_with fail
  go_ret
  exact ⟨rfl, rfl⟩
set_option maxRecDepth 100000 in
theorem bm_height (p g W H : Nat) (ws : List Nat) (w : World) (h : BM w p g ws W H) : Calls Try.prog 40 #[.pointer (some ⟨p, 0, none⟩)] w fun e w' => e = .returned (.int .i64 H) ∧ w = w' := by
  have h1 := h.height
  clear h
  go_enter Try.func40, Try.ntmps40
  go_wp2_with fail
  go_ret
  exact ⟨rfl, rfl⟩

/-- The first word that is not zero. -/
def FirstAt (ws : List Nat) (W : Nat) (x y : Nat) : Prop := mb ws W x y = true ∧ ∀ x' y', x' < (W + 31) / 32 * 32 → (y' < y ∨ y' = y ∧ x' < x) → mb ws W x' y' = false
def LastAt (ws : List Nat) (W H : Nat) (x y : Nat) : Prop := mb ws W x y = true ∧ ∀ x' y', x' < (W + 31) / 32 * 32 → y' < H → (y < y' ∨ y' = y ∧ x < x') → mb ws W x' y' = false
/-- A word that holds no bit is zero. -/
theorem word_zero {x : Nat} (hx : x < 4294967296) (h : ∀ i, i < 32 → x.testBit i = false) : x = 0 := by
  apply Nat.eq_of_testBit_eq
  intro i
  rw [Nat.zero_testBit]
  by_cases hi : i < 32
  · exact h i hi
  · exact Nat.testBit_lt_two_pow (Nat.lt_of_lt_of_le (show x < 2 ^ 32 by omega) (Nat.pow_le_pow_right (by omega) (by omega)))
theorem mb_word (ws : List Nat) (W y q i : Nat) (hq : q < (W + 31) / 32) (hi : i < 32) : mb ws W (32 * q + i) y = (nth ws (y * ((W + 31) / 32) + q)).testBit i := by
  unfold mb
  rw [show (32 * q + i) / 32 = q from by omega, show (32 * q + i) % 32 = i from by omega]
theorem first_words {ws : List Nat} {W H x y : Nat} (hlt : ∀ z ∈ ws, z < 4294967296) (hlen : ws.length = (W + 31) / 32 * H) (hx : x < W) (hy : y < H) (h : FirstAt ws W x y) :
    (∀ k, k < y * ((W + 31) / 32) + x / 32 → nth ws k = 0) ∧ (nth ws (y * ((W + 31) / 32) + x / 32)).testBit (x % 32) = true ∧ (∀ i, i < x % 32 → (nth ws (y * ((W + 31) / 32) + x / 32)).testBit i = false) := by
  have hR : 0 < (W + 31) / 32 := by omega
  have hxR : x / 32 < (W + 31) / 32 := by omega
  refine ⟨fun k hk => ?_, h.1, fun i hi => ?_⟩
  · have hkl : k < ws.length := by have := at_lt hx hy; omega
    refine word_zero (hlt _ (nth_mem hkl)) (fun i hi => ?_)
    obtain ⟨R, hRe⟩ : ∃ R, R = (W + 31) / 32 := ⟨_, rfl⟩
    have hm := Nat.mod_lt k hR
    have hd := Nat.div_add_mod k ((W + 31) / 32)
    rw [Nat.mul_comm] at hd
    rw [← hd, ← mb_word ws W _ _ i hm hi]
    have hkd : k / ((W + 31) / 32) ≤ y := by
      apply Nat.le_of_lt_succ
      apply Nat.div_lt_of_lt_mul
      rw [Nat.mul_comm, Nat.succ_mul]
      omega
    refine h.2 _ _ (by omega) ?_
    by_cases e : k / ((W + 31) / 32) = y
    · rw [e] at hd
      exact .inr ⟨e, by omega⟩
    · exact .inl (by omega)
  · rw [← mb_word ws W _ _ i hxR (by omega)]
    exact h.2 _ _ (by omega) (.inr ⟨rfl, by omega⟩)
theorem last_words {ws : List Nat} {W H x y : Nat} (hlt : ∀ z ∈ ws, z < 4294967296) (hlen : ws.length = (W + 31) / 32 * H) (hx : x < W) (hy : y < H) (h : LastAt ws W H x y) :
    (∀ k, y * ((W + 31) / 32) + x / 32 < k → k < ws.length → nth ws k = 0) ∧ (nth ws (y * ((W + 31) / 32) + x / 32)).testBit (x % 32) = true ∧ (∀ i, x % 32 < i → i < 32 → (nth ws (y * ((W + 31) / 32) + x / 32)).testBit i = false) := by
  have hR : 0 < (W + 31) / 32 := by omega
  have hxR : x / 32 < (W + 31) / 32 := by omega
  refine ⟨fun k hk hkl => ?_, h.1, fun i hi hi2 => ?_⟩
  · refine word_zero (hlt _ (nth_mem hkl)) (fun i hi => ?_)
    have hm := Nat.mod_lt k hR
    have hd := Nat.div_add_mod k ((W + 31) / 32)
    have hdH : k / ((W + 31) / 32) < H := Nat.div_lt_of_lt_mul (by rw [← hlen]; exact hkl)
    rw [Nat.mul_comm] at hd
    rw [← hd, ← mb_word ws W _ _ i hm hi]
    have hkd : y ≤ k / ((W + 31) / 32) := by
      rw [Nat.le_div_iff_mul_le hR]; omega
    refine h.2 _ _ (by omega) hdH ?_
    by_cases e : k / ((W + 31) / 32) = y
    · rw [e] at hd
      exact .inr ⟨e, by omega⟩
    · exact .inl (by omega)
  · rw [← mb_word ws W _ _ i hxR (by omega)]
    exact h.2 _ _ (by omega) hy (.inr ⟨rfl, by omega⟩)
/-- The low bits of a word, shifted up: zero just if they all are. -/
theorem shl_low {v b : Nat} (hb : b < 32) : ((v : Int) * 2 ^ (31 - b) % 4294967296 == 0) = decide (v % 2 ^ (b + 1) = 0) := by
  have e : (v : Int) * 2 ^ (31 - b) % 4294967296 = ((v * 2 ^ (31 - b) % 4294967296 : Nat) : Int) := by simp
  have e2 : (4294967296 : Nat) = 2 ^ (b + 1) * 2 ^ (31 - b) := by rw [← Nat.pow_add, show b + 1 + (31 - b) = 32 from by omega]
  rw [e, e2, Nat.mul_mod_mul_right]
  have hp : 0 < 2 ^ (31 - b) := Nat.two_pow_pos _
  rw [Bool.eq_iff_iff]
  simp only [beq_iff_eq, decide_eq_true_eq]
  constructor
  · intro h
    have h : v % 2 ^ (b + 1) * 2 ^ (31 - b) = 0 := by exact_mod_cast h
    rcases Nat.mul_eq_zero.1 h with h | h
    · exact h
    · omega
  · intro h; rw [h]; simp
theorem low_zero {v b : Nat} (h : ∀ i, i < b → v.testBit i = false) : v % 2 ^ b = 0 := by
  apply Nat.eq_of_testBit_eq
  intro i
  rw [Nat.testBit_mod_two_pow, Nat.zero_testBit]
  by_cases hi : i < b
  · rw [h i hi]; simp
  · simp [hi]
theorem low_not {v b : Nat} (h : v.testBit b = true) : v % 2 ^ (b + 1) ≠ 0 := fun e => by
  have h1 := Nat.testBit_mod_two_pow v (b + 1) b
  rw [e, h, Nat.zero_testBit] at h1
  simp at h1
/-- Two numbers in a new slice. -/
def TwoPost (x y : Nat) (w : World) (e : Ending) (w' : World) : Prop := ∃ b, e = .returned (.slice (some ⟨b, 0, none⟩) 2 2) ∧ w.heap.size ≤ b ∧ Hid (w'.cell? ⟨b, 0, none⟩ = some (.int .i64 x) ∧ w'.cell? ⟨b, 1, none⟩ = some (.int .i64 y) ∧ b < w'.heap.size) ∧ Below w.heap.size w w'
theorem two_made (w : World) (x y : Nat) : TwoPost x y w (.returned (.slice (some ⟨w.heap.size, 0, none⟩) 2 2)) (w.alloc (.cells #[.int .i64 x, .int .i64 y] 3)) := by
  have h := Arr.new w 3 [.int .i64 x, .int .i64 y]
  exact ⟨_, rfl, Nat.le_refl _, Lib.hid ⟨h.cell? 0, h.cell? 1, h.lt⟩, (Below.refl _ _).alloc (Nat.le_refl _) _⟩

/-- The high bits of a word, shifted down: zero just if they all are. -/
theorem shr_high {v b : Nat} : ((v : Int) / 2 ^ b == 0) = decide (v / 2 ^ b = 0) := by
  have e : (v : Int) / 2 ^ b = ((v / 2 ^ b : Nat) : Int) := by simp
  rw [e, Bool.eq_iff_iff]
  simp only [beq_iff_eq, decide_eq_true_eq]
  omega
theorem high_zero {v b : Nat} (hv : v < 4294967296) (h : ∀ i, b ≤ i → i < 32 → v.testBit i = false) : v / 2 ^ b = 0 := by
  apply Nat.eq_of_testBit_eq
  intro i
  rw [Nat.testBit_div_two_pow, Nat.zero_testBit]
  by_cases hi : i + b < 32
  · exact h _ (by omega) hi
  · exact Nat.testBit_lt_two_pow (Nat.lt_of_lt_of_le (show v < 2 ^ 32 by omega) (Nat.pow_le_pow_right (by omega) (by omega)))
theorem high_not {v b : Nat} (h : v.testBit b = true) : v / 2 ^ b ≠ 0 := fun e => by
  have h1 := (Nat.testBit_div_two_pow v 0 : (v / 2 ^ b).testBit 0 = v.testBit (0 + b))
  rw [e, Nat.zero_testBit, Nat.zero_add, h] at h1
  cases h1
end Go.Proofs.Ytcfcbcjaiplllaa
