/-
  Several texts of this claim in one. No condition beyond the bounds that each theorem states.
-/
import Derived.Test.YtiielblnmfeapaaGreatDoorRSK
import Derived.KernelRfl
import Derived.Deep.QuietTactic
import Derived.BigQuiet
import Derived.Test.YtiielblnmfeapaaGreatDoorRSQ
namespace Go.Qz.RS
set_option linter.unusedVariables false

theorem Six.two {F : Fld} (h : Six F) : ∃ m, F.size = 2 ^ m ∧ 2 ≤ m ∧ m ≤ 12 ∧ 2 ^ m ≤ F.prim ∧ F.prim < 2 ^ (m + 1) := by
  obtain ⟨k, hk, rfl⟩ := h
  rcases k with _ | _ | _ | _ | _ | _ | k
  · exact ⟨4, by decide⟩
  · exact ⟨6, by decide⟩
  · exact ⟨8, by decide⟩
  · exact ⟨8, by decide⟩
  · exact ⟨10, by decide⟩
  · exact ⟨12, by decide⟩
  · omega

theorem testBit_top {x m : Nat} (h1 : 2 ^ m ≤ x) (h2 : x < 2 ^ (m + 1)) : x.testBit m = true := by
  rw [Nat.testBit_eq_decide_div_mod_eq]
  have hp : 0 < 2 ^ m := Nat.two_pow_pos m
  have : x / 2 ^ m = 1 := by
    apply Nat.div_eq_of_lt_le
    · omega
    · rw [Nat.pow_succ] at h2; omega
  simp [this]

theorem xor_low {x y m : Nat} (h1 : 2 ^ m ≤ x) (h2 : x < 2 ^ (m + 1)) (h3 : 2 ^ m ≤ y) (h4 : y < 2 ^ (m + 1)) : x ^^^ y < 2 ^ m := by
  apply Nat.lt_pow_two_of_testBit
  intro i hi
  rw [Nat.testBit_xor]
  by_cases h : i = m
  · subst h
    rw [testBit_top h1 h2, testBit_top h3 h4]; rfl
  · have hle : 2 ^ (m + 1) ≤ 2 ^ i := Nat.pow_le_pow_right (by omega) (by omega)
    rw [Nat.testBit_lt_two_pow (by omega), Nat.testBit_lt_two_pow (by omega)]; rfl

/-- Less the primitive polynomial, where too long. -/
def red (F : Fld) (o : Nat) : Nat := if F.size ≤ o then o ^^^ F.prim else o
theorem red_lt {F : Fld} (h : Six F) {o : Nat} (ho : o < 2 * F.size) : red F o < F.size := by
  obtain ⟨m, e, _, _, h1, h2⟩ := h.two
  unfold red
  split
  · rename_i hh
    rw [e] at hh ho ⊢
    exact xor_low hh (by rw [Nat.pow_succ]; omega) h1 h2
  · omega
theorem step_red {F : Fld} (h : Six F) {x : Nat} (hx : x < F.size) : step F x = red F (2 * x) := by
  have hr := red_lt h (o := 2 * x) (by omega)
  obtain ⟨m, e, _⟩ := h.two
  unfold step
  unfold red at hr ⊢
  split
  · rename_i hh
    rw [if_pos hh] at hr
    rw [e] at hr ⊢
    exact Nat.and_two_pow_sub_one_of_lt_two_pow hr
  · rfl

/-- A product, from the highest bit on. -/
def mgo (F : Fld) (a b : Nat) : Nat → Nat → Nat
  | 0, o => o
  | k + 1, o => mgo F a b k (if b / 2 ^ k % 2 = 1 then red F (2 * o) ^^^ a else red F (2 * o))
/-- The product of two elements. -/
def mul (F : Fld) (a b : Nat) : Nat := mgo F a b F.size.log2 0

theorem xor_lt_size {F : Fld} (h : Six F) {x y : Nat} (hx : x < F.size) (hy : y < F.size) : x ^^^ y < F.size := by
  obtain ⟨m, e, _⟩ := h.two
  rw [e] at hx hy ⊢
  exact Nat.xor_lt_two_pow hx hy

theorem mgo_lt {F : Fld} (h : Six F) {a b : Nat} (ha : a < F.size) : ∀ k o, o < F.size → mgo F a b k o < F.size
  | 0, _, ho => ho
  | k + 1, o, ho => by
    have hr := red_lt h (o := 2 * o) (by omega)
    unfold mgo
    apply mgo_lt h ha k
    split
    · exact xor_lt_size h hr ha
    · exact hr
theorem mul_lt {F : Fld} (h : Six F) {a b : Nat} (ha : a < F.size) : mul F a b < F.size := mgo_lt h ha _ _ (by have := h.bounds; omega)

theorem mgo_zero {F : Fld} (h : 0 < F.size) (a b : Nat) : ∀ k, b < 2 ^ k → ∀ j, mgo F a b (k + j) 0 = mgo F a b k 0
  | k, hb, 0 => rfl
  | k, hb, j + 1 => by
    have hlt : b < 2 ^ (k + j) := Nat.lt_of_lt_of_le hb (Nat.pow_le_pow_right (by omega) (by omega))
    rw [show k + (j + 1) = (k + j) + 1 by omega]
    have h1 : (if b / 2 ^ (k + j) % 2 = 1 then red F (2 * 0) ^^^ a else red F (2 * 0)) = 0 := by
      rw [Nat.div_eq_of_lt hlt]
      simp [red, show ¬ F.size ≤ 0 by omega]
    show mgo F a b (k + j) (if b / 2 ^ (k + j) % 2 = 1 then red F (2 * 0) ^^^ a else red F (2 * 0)) = _
    rw [h1]
    exact mgo_zero h a b k hb j

theorem mul_two {F : Fld} (h : Six F) {a : Nat} (ha : a < F.size) : mul F a 2 = step F a := by
  obtain ⟨m, e, h2, _⟩ := h.two
  have hs := h.bounds
  unfold mul
  rw [e, Nat.log2_two_pow, show m = 2 + (m - 2) by omega, mgo_zero (by omega) a 2 2 (by decide)]
  have h0 : red F 0 = 0 := by simp [red]; omega
  simp [mgo, h0]
  rw [step_red h ha]

/-- The powers are all different, by a set of bits. -/
def chk (F : Fld) : Nat → Nat → Nat → Nat
  | 0, _, m => m
  | n + 1, x, m => match m.testBit x with
    | true => 0
    | false => chk F n (step F x) (m ||| 1 <<< x)

theorem chk_said (F : Fld) : ∀ n k m, (∀ a, m.testBit a = true ↔ ∃ j, j < k ∧ ex F j = a) → ∀ M, chk F n (ex F k) m = M → M ≠ 0 →
    (∀ a, M.testBit a = true ↔ ∃ j, j < k + n ∧ ex F j = a) ∧ ∀ j, k ≤ j → j < k + n → ∀ i, i < j → ex F i ≠ ex F j
  | 0, k, m, hm, M, hM, h0 => by
    simp only [chk] at hM
    subst hM
    exact ⟨hm, fun j h1 h2 => by omega⟩
  | n + 1, k, m, hm, M, hM, h0 => by
    unfold chk at hM
    by_cases hb : m.testBit (ex F k) = true
    · rw [hb] at hM
      exact absurd hM.symm h0
    · have hb' : m.testBit (ex F k) = false := by simpa using hb
      rw [hb'] at hM
      obtain ⟨h1, h2⟩ := chk_said F n (k + 1) (m ||| 1 <<< ex F k) (fun a => by
        rw [Nat.testBit_or, Bool.or_eq_true, hm, Nat.one_shiftLeft, Nat.testBit_two_pow]
        simp only [decide_eq_true_eq]
        constructor
        · rintro (⟨j, hj, rfl⟩ | rfl)
          · exact ⟨j, by omega, rfl⟩
          · exact ⟨k, by omega, rfl⟩
        · rintro ⟨j, hj, rfl⟩
          by_cases h : j = k
          · subst h; exact .inr rfl
          · exact .inl ⟨j, by omega, rfl⟩) M hM h0
      refine ⟨fun a => by rw [h1 a, show k + 1 + n = k + (n + 1) by omega], fun j h3 h4 i hi => ?_⟩
      by_cases h : j = k
      · subst h
        intro e
        exact hb ((hm _).2 ⟨i, hi, e⟩)
      · exact h2 j (by omega) (by omega) i hi

set_option maxRecDepth 1000000 in
theorem chk_six : ∀ k, k < 6 → chk (six k) ((six k).size - 1) 1 0 = 2 ^ (six k).size - 2 := by
  intro k hk
  rcases k with _ | _ | _ | _ | _ | _ | k
  · kernel_rfl
  · kernel_rfl
  · kernel_rfl
  · kernel_rfl
  · kernel_rfl
  · kernel_rfl
  · omega

theorem Six.powers {F : Fld} (h : Six F) : (∀ a, 0 < a → a < F.size → ∃ j, j < F.size - 1 ∧ ex F j = a) ∧ (∀ j, j < F.size - 1 → ∀ i, i < j → ex F i ≠ ex F j) ∧ ∀ j, j < F.size - 1 → 0 < ex F j := by
  have hs := h.bounds
  have hc : chk F (F.size - 1) 1 0 = 2 ^ F.size - 2 := by
    obtain ⟨k, hk, rfl⟩ := h
    exact chk_six k hk
  have hp : 2 ^ 4 ≤ 2 ^ F.size := Nat.pow_le_pow_right (by omega) (by omega)
  obtain ⟨h1, h2⟩ := chk_said F (F.size - 1) 0 0 (fun a => by simp) _ hc (by omega)
  have hb : ∀ a, (2 ^ F.size - 2).testBit a = (decide (a < F.size) && !Nat.testBit 1 a) := fun a => by
    rw [show 2 ^ F.size - 2 = 2 ^ F.size - (1 + 1) by rfl, Nat.testBit_two_pow_sub_succ (by omega)]
  have h1b : ∀ a, Nat.testBit 1 a = decide (0 = a) := fun a => by
    rw [← Nat.pow_zero 2, Nat.testBit_two_pow]
  refine ⟨fun a h3 h4 => ?_, fun j h3 => h2 j (by omega) (by omega), fun j hj => ?_⟩
  · have := (h1 a).1 (by rw [hb, h1b]; simp [h4]; omega)
    simpa using this
  · rcases Nat.eq_zero_or_pos (ex F j) with e | e
    · have := (h1 0).2 ⟨j, by omega, e⟩
      rw [hb, h1b] at this
      simp at this
    · exact e

theorem lg_ex {F : Fld} (h : Six F) {n : Nat} (hn : n < F.size - 1) : lg F (ex F n) = n := by
  have hs := h.bounds
  have hi := h.powers.2.1
  unfold lg
  have : ∀ k, k ≤ F.size - 1 → ∀ n, n < k → (logs F k).getD (ex F n) 0 = n := by
    intro k
    induction k with
    | zero => intro _ n hn; omega
    | succ k ih =>
      intro hk n hn
      have hl := logs_length F k
      have hx := ex_lt F (by omega) n
      unfold logs
      rw [List.getD_eq_getElem?_getD, List.getElem?_set]
      by_cases e : n = k
      · subst e
        simp [hl, hx]
      · rw [if_neg (fun e2 => hi k (by omega) n (by omega) e2.symm), ← List.getD_eq_getElem?_getD]
        exact ih (by omega) n (by omega)
  exact this _ (Nat.le_refl _) n hn
theorem ex_lg {F : Fld} (h : Six F) {a : Nat} (h0 : 0 < a) (ha : a < F.size) : lg F a < F.size - 1 ∧ ex F (lg F a) = a := by
  obtain ⟨j, hj, rfl⟩ := h.powers.1 a h0 ha
  rw [lg_ex h hj]
  exact ⟨hj, rfl⟩
theorem ex_pos {F : Fld} (h : Six F) (n : Nat) (hn : n < F.size - 1) : 0 < ex F n := h.powers.2.2 n hn
end Go.Qz.RS
namespace Go.Proofs.YtiielblnmfeapaaGreatDoor
open Go.RowKit Go.Qz Go.Qz.RS
set_option linter.unusedVariables false

set_option maxRecDepth 100000 in
set_option maxHeartbeats 1600000 in
theorem rsTimes (F : Fld) (hF : Six F) (a b : Nat) (B : Int) (hB : B = b) (ha : a < F.size) (hb : b < F.size) (w : World) :
    Calls Tryz.prog 78 #[fv F, .int .i64 a, .int .i64 B] w fun e w' => e = .returned (.int .i64 (mul F a b : Nat)) ∧ Below w.heap.size w w' := by
  subst hB
  have hs := hF.bounds
  obtain ⟨m, e, m2, m12, _⟩ := hF.two
  have hb0 : Below w.heap.size w (w.alloc (.cells #[.int .i64 F.prim, .int .i64 F.size, .int .i64 F.base] 71)) := (Below.refl _ _).alloc (Nat.le_refl _) _
  have hAr : Arr (w.alloc (.cells #[.int .i64 F.prim, .int .i64 F.size, .int .i64 F.base] 71)) 71 w.heap.size [.int .i64 F.prim, .int .i64 F.size, .int .i64 F.base] := Arr.new _ _ _
  have hmul : mul F a b = mgo F a b m 0 := by unfold mul; rw [e, Nat.log2_two_pow]
  have HM := Lib.hid hmul
  have HE := Lib.hid e
  clear e hmul
  unfold fv
  go_enter Tryz.func78, Tryz.ntmps78
  go_wp2_with fail
  go_loopw [7, 8] (fun o bt wr => ∃ k x q : Nat, k ≤ m ∧ bt = .int .i64 q ∧ Hid (q = 2 ^ k / 2) ∧ o = .int .i64 x ∧ x < F.size ∧ Hid (mgo F a b k x = mgo F a b m 0) ∧ wr = w.alloc (.cells #[.int .i64 F.prim, .int .i64 F.size, .int .i64 F.base] 71)) (fun _ bt _ => (intOf bt).toNat)
  case atStart => exact ⟨m, 0, F.size / 2, Nat.le_refl _, by simp, Lib.hid (by rw [HE.out]), rfl, by omega, Lib.hid rfl, rfl⟩
  case round =>
    obtain ⟨k, x, q, hk, rfl, hq, rfl, hx, hgo, rfl⟩ := hrel
    rcases k with _ | k
    · have hq0 : q = 0 := hq.out
      subst hq0
      have hg : mul F a b = x := HM.out.trans hgo.out.symm
      have HG := Lib.hid hg
      clear hg
      go_wp2_with fail
      go_ret
      exact ⟨by rw [HG.out]; rfl, hb0⟩
    · have hq1 : q = 2 ^ k := by have := hq.out; rw [Nat.pow_succ] at this; omega
      have hq0 : 0 < q := by rw [hq1]; exact Nat.two_pow_pos k
      have hqs : q < F.size := by rw [hq1, HE.out]; exact Nat.pow_lt_pow_right (by omega) (by omega)
      have a0 := hAr.cell? 0
      have a1 := hAr.cell? 1
      simp only [List.getElem?_cons_zero, List.getElem?_cons_succ] at a0 a1
      obtain ⟨t, ht⟩ : ∃ t, t = b / q := ⟨_, rfl⟩
      have htb : (b : Int) / (q : Int) = (t : Int) := by rw [ht]; simp
      have htl : t ≤ b := by rw [ht]; exact Nat.div_le_self b q
      obtain ⟨y, hy⟩ : ∃ y, y = red F (2 * x) := ⟨_, rfl⟩
      have hyl : y < F.size := by rw [hy]; exact red_lt hF (by omega)
      have hzl : y ^^^ a < F.size := xor_lt_size hF hyl ha
      obtain ⟨z, hz⟩ : ∃ z, z = y ^^^ a := ⟨_, rfl⟩
      rw [← hz] at hzl
      have hxy : bits .xor .i64 (y : Int) (a : Int) = (z : Int) := by rw [hz]; exact i64_xor y a (by omega) (by omega)
      have hnext : mgo F a b (k + 1) x = mgo F a b k (if t % 2 = 1 then z else y) := by
        rw [hz, hy, ht, hq1]; rfl
      have HN := Lib.hid (hnext.symm.trans hgo.out)
      have HQ := Lib.hid (show q / 2 = 2 ^ k / 2 by rw [hq1])
      have HR := Lib.hid hy
      clear hnext hz ht hq1 hq hgo hy
      have hrest : ∀ v : Nat, v = (if t % 2 = 1 then z else y) → v < F.size → Hid (∃ k' x' q' : Nat, k' ≤ m ∧ Value.int .i64 (((q : Int) / 2)) = .int .i64 q' ∧ Hid (q' = 2 ^ k' / 2) ∧ Value.int .i64 (v : Int) = .int .i64 x' ∧ x' < F.size ∧ Hid (mgo F a b k' x' = mgo F a b m 0) ∧ True) := fun v hv hvl =>
        Lib.hid ⟨k, v, q / 2, by omega, by simp, HQ, rfl, hvl, Lib.hid (by rw [hv]; exact HN.out), trivial⟩
      have HREST := Lib.hid hrest
      clear hrest HN HQ
      by_cases h1 : F.size ≤ 2 * x
      · have hr : bits .xor .i64 ((x : Int) * 2) (F.prim : Int) = (y : Int) := by
          rw [show (x : Int) * 2 = ((2 * x : Nat) : Int) by omega, i64_xor _ _ (by omega) (by omega), HR.out]; simp [red, h1]
        by_cases h2 : t % 2 = 1
        · have h3 : (t : Int) % 2 = 1 := by omega
          have HV := Lib.hid (HREST.out z (by simp [h2]) hzl)
          clear HREST HR
          go_wp2_with fail
          go_roundw
          case rel => exact HV.out.out
          case measure => simp [intOf]; omega
        · have h3 : (t : Int) % 2 = 0 := by omega
          have HV := Lib.hid (HREST.out y (by simp [h2]) hyl)
          clear HREST HR
          go_wp2_with fail
          go_roundw
          case rel => exact HV.out.out
          case measure => simp [intOf]; omega
      · have hr : y = 2 * x := by rw [HR.out]; simp [red, h1]
        have hr2 : (x : Int) * 2 = (y : Int) := by omega
        have h1' : ¬ (F.size : Int) ≤ (x : Int) * 2 := by omega
        clear hr
        rw [hr2] at h1'
        by_cases h2 : t % 2 = 1
        · have h3 : (t : Int) % 2 = 1 := by omega
          have HV := Lib.hid (HREST.out z (by simp [h2]) hzl)
          clear HREST HR
          go_wp2_with fail
          go_roundw
          case rel => exact HV.out.out
          case measure => simp [intOf]; omega
        · have h3 : (t : Int) % 2 = 0 := by omega
          have HV := Lib.hid (HREST.out y (by simp [h2]) hyl)
          clear HREST HR
          go_wp2_with fail
          go_roundw
          case rel => exact HV.out.out
          case measure => simp [intOf]; omega

set_option maxRecDepth 100000 in
set_option maxHeartbeats 1600000 in
theorem rsPower (F : Fld) (hF : Six F) (n : Nat) (hn : n < 1000000) (w : World) :
    Calls Tryz.prog 81 #[fv F, .int .i64 n] w fun e w' => e = .returned (.int .i64 (ex F n : Nat)) ∧ Below w.heap.size w w' := by
  have hs := hF.bounds
  have hb0 : Below w.heap.size w (w.alloc (.cells #[.int .i64 F.prim, .int .i64 F.size, .int .i64 F.base] 71)) := (Below.refl _ _).alloc (Nat.le_refl _) _
  have hAr : Arr (w.alloc (.cells #[.int .i64 F.prim, .int .i64 F.size, .int .i64 F.base] 71)) 71 w.heap.size [.int .i64 F.prim, .int .i64 F.size, .int .i64 F.base] := Arr.new _ _ _
  unfold fv
  go_enter Tryz.func81, Tryz.ntmps81
  go_wp2_with fail
  go_loopw [5, 6] (fun o i wr => ∃ k : Nat, k ≤ n ∧ i = .int .i64 k ∧ Hid (o = .int .i64 (ex F k : Nat)) ∧ Below w.heap.size w wr ∧ Arr wr 71 w.heap.size [.int .i64 F.prim, .int .i64 F.size, .int .i64 F.base]) (fun _ i _ => n - (intOf i).toNat)
  case atStart => exact ⟨0, by omega, rfl, Lib.hid rfl, hb0, hAr⟩
  case round =>
    obtain ⟨k, hk, rfl, ho, hbel, hA⟩ := hrel
    clear hb0 hAr
    obtain rfl := ho.out
    clear ho
    by_cases hlt : k < n
    · have a0 := hA.cell? 0
      have a1 := hA.cell? 1
      have a2 := hA.cell? 2
      simp only [List.getElem?_cons_zero, List.getElem?_cons_succ] at a0 a1 a2
      obtain ⟨x, hx⟩ : ∃ x, x = ex F k := ⟨_, rfl⟩
      have hxl : x < F.size := by rw [hx]; exact ex_lt F (by omega) k
      have hm : mul F x 2 = ex F (k + 1) := by rw [mul_two hF hxl, hx]; rfl
      have HT := rsTimes F hF x 2 2 rfl hxl (by omega) wr
      rw [hm] at HT
      rw [← hx]
      unfold fv at HT
      have HT := Lib.hid HT
      have HA := Lib.hid hA
      clear hm hx hA
      go_wp2_with fail
      refine HT.out.mono ?_
      rintro e w1 ⟨rfl, hb1⟩
      have hbel1 := hbel.trans (hb1.mono hbel.size)
      have HA1 := Lib.hid (HA.out.below hb1 HA.out.lt)
      clear a0 a1 a2 HA HT hb1
      go_wp2_with fail
      go_roundw
      case rel => exact ⟨k + 1, by omega, by go_num, Lib.hid rfl, hbel1, HA1.out⟩
      case measure => simp [intOf]; omega
    · obtain rfl : k = n := by omega
      go_wp2_with fail
      go_ret
      exact ⟨rfl, hbel⟩

set_option maxRecDepth 100000 in
set_option maxHeartbeats 1600000 in
theorem gfExp (Q : Nat → Prop) (F : Fld) (hF : Six F) (f n : Nat) (hn : n < F.size) (w : World) (h : GFQ w Q f F) :
    Calls Tryz.prog 89 #[.pointer (some ⟨f, 0, none⟩), .int .i64 n] w fun e w' => e = .returned (.int .i64 (ex F n : Nat)) ∧ w = w' := by
  have hs := hF.bounds
  obtain ⟨⟨eb, lb, z, o, h1, h2, _⟩, _⟩ := h
  have hc : w.cell? ⟨f, 0, none⟩ = some (.slice (some ⟨eb, 0, none⟩) F.size F.size) := by rw [cell_of_row w f 0 _ _ _ h1]; rfl
  have hv : w.cell? ⟨eb, n, none⟩ = some (.int .i64 (ex F n : Nat)) := by
    rw [Arr.cell? h2]
    simp [pre, hn]
  clear h1 h2
  go_enter Tryz.func89, Tryz.ntmps89
  go_wp2_with fail
  go_ret
  exact ⟨rfl, rfl⟩

set_option maxRecDepth 100000 in
set_option maxHeartbeats 1600000 in
theorem gfLog (Q : Nat → Prop) (F : Fld) (hF : Six F) (f n : Nat) (hn : n < F.size) (w : World) (h : GFQ w Q f F) :
    Calls Tryz.prog 95 #[.pointer (some ⟨f, 0, none⟩), .int .i64 n] w fun e w' => ∃ x y, e = .returned (.tuple #[x, y]) ∧ Below w.heap.size w w' ∧ (n = 0 → IsErr y ∧ x = .int .i64 0) ∧ (n ≠ 0 → y = .nilIface ∧ x = .int .i64 (lg F n : Nat)) := by
  have hs := hF.bounds
  obtain ⟨⟨eb, lb, z, o, h1, _, _, h2, _⟩, _⟩ := h
  have hc : w.cell? ⟨f, 1, none⟩ = some (.slice (some ⟨lb, 0, none⟩) F.size F.size) := by rw [cell_of_row w f 1 _ _ _ h1]; rfl
  have hv : w.cell? ⟨lb, n, none⟩ = some (.int .i64 (lg F n : Nat)) := by
    rw [Arr.cell? h2]
    have hl := logs_length F (F.size - 1)
    rw [List.getElem?_map, List.getElem?_eq_getElem (by omega)]
    simp [lg, List.getD_eq_getElem?_getD, hl, hn]
  clear h1 h2
  by_cases h0 : n = 0
  · subst h0
    go_enter Tryz.func95, Tryz.ntmps95
    go_wp2_with fail
    refine (err_new _ _).mono ?_
    rintro e w2 ⟨v, rfl, hv, hb2⟩
    go_wp2_with fail
    go_ret2
    exact ⟨_, _, rfl, hb2, fun _ => ⟨hv, rfl⟩, fun h => absurd rfl h⟩
  · go_enter Tryz.func95, Tryz.ntmps95
    go_wp2_with fail
    go_ret2
    exact ⟨_, _, rfl, Below.refl _ _, fun h => absurd h h0, fun _ => ⟨rfl, rfl⟩⟩

end Go.Proofs.YtiielblnmfeapaaGreatDoor
namespace Go.Qz.RS
set_option linter.unusedVariables false

theorem top_iff {m u : Nat} (h : u < 2 ^ (m + 1)) : 2 ^ m ≤ u ↔ u.testBit m = true := by
  constructor
  · intro h1; exact testBit_top h1 h
  · intro h1
    rcases Nat.lt_or_ge u (2 ^ m) with h2 | h2
    · rw [Nat.testBit_lt_two_pow h2] at h1; cases h1
    · exact h2
theorem red_xor {F : Fld} (h : Six F) {u v : Nat} (hu : u < 2 * F.size) (hv : v < 2 * F.size) : red F (u ^^^ v) = red F u ^^^ red F v := by
  obtain ⟨m, e, _, _, _, _⟩ := h.two
  have hu' : u < 2 ^ (m + 1) := by rw [Nat.pow_succ]; omega
  have hv' : v < 2 ^ (m + 1) := by rw [Nat.pow_succ]; omega
  have huv : u ^^^ v < 2 ^ (m + 1) := Nat.xor_lt_two_pow hu' hv'
  unfold red
  rw [e]
  simp only [top_iff hu', top_iff hv', top_iff huv, Nat.testBit_xor]
  cases u.testBit m <;> cases v.testBit m
  · simp
  · simp [Nat.xor_assoc]
  · simp [Nat.xor_assoc, Nat.xor_comm v F.prim]
  · simp
    rw [Nat.xor_assoc, ← Nat.xor_assoc F.prim v F.prim, Nat.xor_comm F.prim v, Nat.xor_assoc v, Nat.xor_self, Nat.xor_zero]
theorem two_xor (x y : Nat) : 2 * (x ^^^ y) = 2 * x ^^^ 2 * y := by
  have := Nat.shiftLeft_xor_distrib (a := x) (b := y) (i := 1)
  simpa [Nat.shiftLeft_eq, Nat.mul_comm] using this

theorem bit_eq (b k : Nat) : (b / 2 ^ k % 2 = 1) ↔ b.testBit k = true := by
  rw [Nat.testBit_eq_decide_div_mod_eq]; simp

theorem mgo_left {F : Fld} (h : Six F) (a a' b : Nat) (ha : a < F.size) (ha' : a' < F.size) : ∀ k o o', o < F.size → o' < F.size → mgo F (a ^^^ a') b k (o ^^^ o') = mgo F a b k o ^^^ mgo F a' b k o'
  | 0, o, o', _, _ => rfl
  | k + 1, o, o', ho, ho' => by
    have hr := red_lt h (o := 2 * o) (by omega)
    have hr' := red_lt h (o := 2 * o') (by omega)
    have hx := red_xor h (u := 2 * o) (v := 2 * o') (by omega) (by omega)
    unfold mgo
    rw [two_xor, hx]
    split
    · rw [← mgo_left h a a' b ha ha' k _ _ (xor_lt_size h hr ha) (xor_lt_size h hr' ha')]
      congr 1
      rw [Nat.xor_assoc, Nat.xor_assoc, ← Nat.xor_assoc (red F (2 * o')), Nat.xor_comm (red F (2 * o')) a, Nat.xor_assoc a]
    · exact mgo_left h a a' b ha ha' k _ _ hr hr'
theorem mgo_right {F : Fld} (h : Six F) (a b b' : Nat) (ha : a < F.size) : ∀ k o o', o < F.size → o' < F.size → mgo F a (b ^^^ b') k (o ^^^ o') = mgo F a b k o ^^^ mgo F a b' k o'
  | 0, o, o', _, _ => rfl
  | k + 1, o, o', ho, ho' => by
    have hr := red_lt h (o := 2 * o) (by omega)
    have hr' := red_lt h (o := 2 * o') (by omega)
    have hx := red_xor h (u := 2 * o) (v := 2 * o') (by omega) (by omega)
    have ih := mgo_right h a b b' ha k
    unfold mgo
    rw [two_xor, hx]
    simp only [bit_eq, Nat.testBit_xor]
    cases b.testBit k <;> cases b'.testBit k
    · exact ih _ _ hr hr'
    · simp only [if_true, if_false, Bool.false_eq_true, Bool.bne_true, Bool.not_false]
      rw [← ih _ _ hr (xor_lt_size h hr' ha), Nat.xor_assoc]
    · simp only [Bool.bne_false, if_true, if_false, Bool.false_eq_true]
      rw [← ih _ _ (xor_lt_size h hr ha) hr', Nat.xor_assoc, Nat.xor_assoc, Nat.xor_comm a]
    · simp only [bne_self_eq_false, if_true, if_false, Bool.false_eq_true]
      rw [← ih _ _ (xor_lt_size h hr ha) (xor_lt_size h hr' ha)]
      congr 1
      rw [Nat.xor_assoc, ← Nat.xor_assoc a, Nat.xor_comm a, Nat.xor_assoc (red F (2 * o')), Nat.xor_self, Nat.xor_zero]
theorem mul_xor_left {F : Fld} (h : Six F) {a a' : Nat} (ha : a < F.size) (ha' : a' < F.size) (b : Nat) : mul F (a ^^^ a') b = mul F a b ^^^ mul F a' b := by
  have hs := h.bounds
  have := mgo_left h a a' b ha ha' F.size.log2 0 0 (by omega) (by omega)
  simpa [mul] using this
theorem mul_xor_right {F : Fld} (h : Six F) {a : Nat} (ha : a < F.size) (b b' : Nat) : mul F a (b ^^^ b') = mul F a b ^^^ mul F a b' := by
  have hs := h.bounds
  have := mgo_right h a b b' ha F.size.log2 0 0 (by omega) (by omega)
  simpa [mul] using this

/-- What holds of 0 and of each bit, and of sums, holds of all. -/
theorem xor_ind (P : Nat → Prop) (h0 : P 0) : ∀ m, (∀ i, i < m → P (2 ^ i)) → (∀ x y, x < 2 ^ m → y < 2 ^ m → P x → P y → P (x ^^^ y)) → ∀ x, x < 2 ^ m → P x
  | 0, _, _, x, hx => by have : x = 0 := by simpa using hx
                         rw [this]; exact h0
  | m + 1, hb, hs, x, hx => by
    have hle : 2 ^ m < 2 ^ (m + 1) := Nat.pow_lt_pow_right (by omega) (by omega)
    have ih := xor_ind P h0 m (fun i hi => hb i (by omega)) (fun x y h1 h2 => hs x y (by omega) (by omega))
    rcases Nat.lt_or_ge x (2 ^ m) with h | h
    · exact ih x h
    · have h1 : x ^^^ 2 ^ m < 2 ^ m := xor_low h hx (Nat.le_refl _) hle
      have h2 : x = (x ^^^ 2 ^ m) ^^^ 2 ^ m := by rw [Nat.xor_assoc, Nat.xor_self, Nat.xor_zero]
      rw [h2]
      exact hs _ _ (by omega) hle (ih _ h1) (hb m (by omega))

theorem mul_zero {F : Fld} (h : Six F) {a : Nat} (ha : a < F.size) : mul F a 0 = 0 := by
  have := mul_xor_right h ha 0 0
  rw [Nat.xor_self, Nat.xor_self] at this; exact this
theorem zero_mul {F : Fld} (h : Six F) (b : Nat) : mul F 0 b = 0 := by
  have hs := h.bounds
  have := mul_xor_left h (a := 0) (a' := 0) (by omega) (by omega) b
  rw [Nat.xor_self, Nat.xor_self] at this; exact this
theorem step_xor {F : Fld} (h : Six F) {x y : Nat} (hx : x < F.size) (hy : y < F.size) : step F (x ^^^ y) = step F x ^^^ step F y := by
  rw [step_red h hx, step_red h hy, step_red h (xor_lt_size h hx hy), two_xor, red_xor h (by omega) (by omega)]

/-- The products of bits, by the kernel. -/
def chkMul (F : Fld) (m : Nat) : Bool := (List.range m).all fun i => mul F (2 ^ i) 1 == 2 ^ i && (List.range m).all fun j => mul F (2 ^ i) (step F (2 ^ j)) == step F (mul F (2 ^ i) (2 ^ j))
set_option maxRecDepth 1000000 in
theorem chkMul_six : ∀ k, k < 6 → chkMul (six k) (six k).size.log2 = true ∧ ex (six k) ((six k).size - 1) = 1 := by
  intro k hk
  rcases k with _ | _ | _ | _ | _ | _ | k
  · exact ⟨by kernel_rfl, by kernel_rfl⟩
  · exact ⟨by kernel_rfl, by kernel_rfl⟩
  · exact ⟨by kernel_rfl, by kernel_rfl⟩
  · exact ⟨by kernel_rfl, by kernel_rfl⟩
  · exact ⟨by kernel_rfl, by kernel_rfl⟩
  · exact ⟨by kernel_rfl, by kernel_rfl⟩
  · omega
theorem Six.chk {F : Fld} (h : Six F) : chkMul F F.size.log2 = true ∧ ex F (F.size - 1) = 1 := by
  obtain ⟨k, hk, rfl⟩ := h
  exact chkMul_six k hk

theorem mul_one {F : Fld} (h : Six F) {a : Nat} (ha : a < F.size) : mul F a 1 = a := by
  obtain ⟨m, e, _⟩ := h.two
  have hc := h.chk.1
  rw [e, Nat.log2_two_pow] at hc
  simp only [chkMul, List.all_eq_true, List.mem_range, Bool.and_eq_true, beq_iff_eq] at hc
  rw [e] at ha
  refine xor_ind (fun a => mul F a 1 = a) (zero_mul h 1) m (fun i hi => (hc i hi).1) (fun x y hx hy h1 h2 => ?_) a ha
  rw [mul_xor_left h (by omega) (by omega), h1, h2]
theorem mul_step {F : Fld} (h : Six F) {a b : Nat} (ha : a < F.size) (hb : b < F.size) : mul F a (step F b) = step F (mul F a b) := by
  obtain ⟨m, e, _⟩ := h.two
  have hs := h.bounds
  have hc := h.chk.1
  rw [e, Nat.log2_two_pow] at hc
  simp only [chkMul, List.all_eq_true, List.mem_range, Bool.and_eq_true, beq_iff_eq] at hc
  have st0 : step F 0 = 0 := by unfold step; rw [if_neg (by omega)]
  have hpow : ∀ i, i < m → 2 ^ i < F.size := fun i hi => by rw [e]; exact Nat.pow_lt_pow_right (by omega) hi
  refine xor_ind (fun a => mul F a (step F b) = step F (mul F a b)) (by rw [zero_mul h, zero_mul h, st0]) m (fun i hi => ?_) (fun x y hx hy h1 h2 => ?_) a (by omega)
  · refine xor_ind (fun b => mul F (2 ^ i) (step F b) = step F (mul F (2 ^ i) b)) (by rw [st0, mul_zero h (hpow i hi), st0]) m (fun j hj => (hc i hi).2 j hj) (fun x y hx hy h1 h2 => ?_) b (by omega)
    rw [step_xor h (by omega) (by omega), mul_xor_right h (hpow i hi), mul_xor_right h (hpow i hi), step_xor h (mul_lt h (hpow i hi)) (mul_lt h (hpow i hi)), h1, h2]
  · rw [mul_xor_left h (by omega) (by omega), mul_xor_left h (by omega) (by omega), step_xor h (mul_lt h (by omega)) (mul_lt h (by omega)), h1, h2]
theorem mul_ex {F : Fld} (h : Six F) (i : Nat) : ∀ j, mul F (ex F i) (ex F j) = ex F (i + j)
  | 0 => mul_one h (ex_lt F (by have := h.bounds; omega) i)
  | j + 1 => by
    have hs := h.bounds
    show mul F (ex F i) (step F (ex F j)) = step F (ex F (i + j))
    rw [mul_step h (ex_lt F (by omega) i) (ex_lt F (by omega) j), mul_ex h i j]
theorem ex_period {F : Fld} (h : Six F) : ∀ i, ex F (i + (F.size - 1)) = ex F i
  | 0 => by rw [Nat.zero_add]; exact h.chk.2
  | i + 1 => by
    rw [show i + 1 + (F.size - 1) = (i + (F.size - 1)) + 1 by omega]
    show step F (ex F (i + (F.size - 1))) = step F (ex F i)
    rw [ex_period h i]
theorem ex_mod {F : Fld} (h : Six F) (i : Nat) : ex F (i % (F.size - 1)) = ex F i := by
  have hs := h.bounds
  have : ∀ q r, ex F (r + q * (F.size - 1)) = ex F r := by
    intro q
    induction q with
    | zero => intro r; simp
    | succ q ih => intro r; rw [Nat.succ_mul, ← Nat.add_assoc, ex_period h, ih]
  have h2 := this (i / (F.size - 1)) (i % (F.size - 1))
  rw [Nat.mul_comm, Nat.mod_add_div] at h2
  exact h2.symm
theorem ex_cases {F : Fld} (h : Six F) {a : Nat} (ha : a < F.size) : a = 0 ∨ ∃ i, i < F.size - 1 ∧ a = ex F i := by
  rcases Nat.eq_zero_or_pos a with h0 | h0
  · exact .inl h0
  · obtain ⟨h1, h2⟩ := ex_lg h h0 ha
    exact .inr ⟨_, h1, h2.symm⟩
theorem mul_comm {F : Fld} (h : Six F) {a b : Nat} (ha : a < F.size) (hb : b < F.size) : mul F a b = mul F b a := by
  rcases ex_cases h ha with rfl | ⟨i, _, rfl⟩
  · rw [zero_mul h, mul_zero h hb]
  rcases ex_cases h hb with rfl | ⟨j, _, rfl⟩
  · rw [zero_mul h, mul_zero h ha]
  rw [mul_ex h, mul_ex h, Nat.add_comm]
theorem mul_assoc {F : Fld} (h : Six F) {a b c : Nat} (ha : a < F.size) (hb : b < F.size) (hc : c < F.size) : mul F (mul F a b) c = mul F a (mul F b c) := by
  rcases ex_cases h ha with rfl | ⟨i, _, rfl⟩
  · rw [zero_mul h, zero_mul h, zero_mul h]
  rcases ex_cases h hb with rfl | ⟨j, _, rfl⟩
  · rw [mul_zero h ha, zero_mul h, mul_zero h ha]
  rcases ex_cases h hc with rfl | ⟨k, _, rfl⟩
  · rw [mul_zero h hb, mul_zero h ha, mul_zero h (mul_lt h ha)]
  rw [mul_ex h, mul_ex h, mul_ex h, mul_ex h, Nat.add_assoc]
theorem mul_tables {F : Fld} (h : Six F) {a b : Nat} (ha : a < F.size) (hb : b < F.size) (ha0 : a ≠ 0) (hb0 : b ≠ 0) : ex F ((lg F a + lg F b) % (F.size - 1)) = mul F a b := by
  obtain ⟨_, h1⟩ := ex_lg h (by omega) ha
  obtain ⟨_, h2⟩ := ex_lg h (by omega) hb
  rw [ex_mod h, ← mul_ex h, h1, h2]
/-- The inverse of an element. -/
def inv (F : Fld) (a : Nat) : Nat := ex F (F.size - lg F a - 1)
theorem inv_lt {F : Fld} (h : Six F) (a : Nat) : inv F a < F.size := ex_lt F (by have := h.bounds; omega) _
theorem mul_inv {F : Fld} (h : Six F) {a : Nat} (ha : a < F.size) (ha0 : a ≠ 0) : mul F a (inv F a) = 1 := by
  obtain ⟨h0, h1⟩ := ex_lg h (by omega) ha
  have : mul F a (inv F a) = mul F (ex F (lg F a)) (inv F a) := by rw [h1]
  rw [this]
  unfold inv
  rw [mul_ex h, show lg F a + (F.size - lg F a - 1) = F.size - 1 by omega]
  exact h.chk.2
theorem mul_ne_zero {F : Fld} (h : Six F) {a b : Nat} (ha : a < F.size) (hb : b < F.size) (ha0 : a ≠ 0) (hb0 : b ≠ 0) : mul F a b ≠ 0 := by
  have hs := h.bounds
  rw [← mul_tables h ha hb ha0 hb0]
  have := ex_pos h ((lg F a + lg F b) % (F.size - 1)) (Nat.mod_lt _ (by omega))
  omega
end Go.Qz.RS
namespace Go.Qz.RS
open Go.Qz
set_option linter.unusedVariables false

/-- The sum of the first ones. -/
def xs (f : Nat → Nat) : Nat → Nat
  | 0 => 0
  | n + 1 => xs f n ^^^ f n
theorem xs_congr {f g : Nat → Nat} : ∀ {n : Nat}, (∀ i, i < n → f i = g i) → xs f n = xs g n
  | 0, _ => rfl
  | n + 1, h => by
    show xs f n ^^^ f n = xs g n ^^^ g n
    rw [xs_congr (n := n) (fun i hi => h i (by omega)), h n (by omega)]
theorem xor4 (a b c d : Nat) : (a ^^^ b) ^^^ (c ^^^ d) = (a ^^^ c) ^^^ (b ^^^ d) := by
  rw [Nat.xor_assoc, Nat.xor_assoc, ← Nat.xor_assoc b, Nat.xor_comm b c, Nat.xor_assoc c]
theorem xs_xor (f g : Nat → Nat) : ∀ n, xs (fun i => f i ^^^ g i) n = xs f n ^^^ xs g n
  | 0 => by simp [xs]
  | n + 1 => by
    show xs (fun i => f i ^^^ g i) n ^^^ (f n ^^^ g n) = (xs f n ^^^ f n) ^^^ (xs g n ^^^ g n)
    rw [xs_xor f g n, xor4]
theorem xs_zero {f : Nat → Nat} : ∀ {n : Nat}, (∀ i, i < n → f i = 0) → xs f n = 0
  | 0, _ => rfl
  | n + 1, h => by
    show xs f n ^^^ f n = 0
    rw [xs_zero (n := n) (fun i hi => h i (by omega)), h n (by omega)]; rfl
theorem xs_lt {F : Fld} (h : Six F) {f : Nat → Nat} : ∀ {n : Nat}, (∀ i, i < n → f i < F.size) → xs f n < F.size
  | 0, _ => by have := h.bounds; show 0 < F.size; omega
  | n + 1, hf => xor_lt_size h (xs_lt h (n := n) (fun i hi => hf i (by omega))) (hf n (by omega))
theorem xs_ext {f : Nat → Nat} {m : Nat} : ∀ {n : Nat}, m ≤ n → (∀ i, m ≤ i → i < n → f i = 0) → xs f n = xs f m
  | 0, h, _ => by have : m = 0 := by omega
                  rw [this]
  | n + 1, h, hz => by
    by_cases e : m = n + 1
    · rw [e]
    · show xs f n ^^^ f n = xs f m
      rw [xs_ext (n := n) (by omega) (fun i h1 h2 => hz i h1 (by omega)), hz n (by omega) (by omega), Nat.xor_zero]
theorem xs_one {f : Nat → Nat} {k n : Nat} (hk : k < n) (h : ∀ i, i < n → i ≠ k → f i = 0) : xs f n = f k := by
  rw [xs_ext (m := k + 1) (by omega) (fun i h1 h2 => h i h2 (by omega))]
  show xs f k ^^^ f k = f k
  rw [xs_zero (fun i hi => h i (by omega) (by omega)), Nat.zero_xor]
theorem xs_front (f : Nat → Nat) : ∀ n, xs f (n + 1) = f 0 ^^^ xs (fun i => f (i + 1)) n
  | 0 => by show 0 ^^^ f 0 = f 0 ^^^ 0; rw [Nat.zero_xor, Nat.xor_zero]
  | n + 1 => by
    show xs f (n + 1) ^^^ f (n + 1) = f 0 ^^^ (xs (fun i => f (i + 1)) n ^^^ f (n + 1))
    rw [xs_front f n, Nat.xor_assoc]
theorem xs_rev (f : Nat → Nat) : ∀ n, xs f n = xs (fun i => f (n - 1 - i)) n
  | 0 => rfl
  | n + 1 => by
    rw [xs_front (fun i => f (n + 1 - 1 - i)) n]
    show xs f n ^^^ f n = _
    rw [xs_rev f n, Nat.xor_comm]
    congr 1
    exact xs_congr fun i hi => by show f _ = f _; congr 1; omega
theorem mul_xs_left {F : Fld} (h : Six F) {f : Nat → Nat} (c : Nat) : ∀ {n : Nat}, (∀ i, i < n → f i < F.size) → mul F (xs f n) c = xs (fun i => mul F (f i) c) n
  | 0, _ => zero_mul h c
  | n + 1, hf => by
    show mul F (xs f n ^^^ f n) c = xs (fun i => mul F (f i) c) n ^^^ mul F (f n) c
    rw [mul_xor_left h (xs_lt h (fun i hi => hf i (by omega))) (hf n (by omega)), mul_xs_left h c (n := n) (fun i hi => hf i (by omega))]
theorem mul_xs_right {F : Fld} (h : Six F) {f : Nat → Nat} {a : Nat} (ha : a < F.size) : ∀ {n : Nat}, mul F a (xs f n) = xs (fun i => mul F a (f i)) n
  | 0 => mul_zero h ha
  | n + 1 => by
    show mul F a (xs f n ^^^ f n) = xs (fun i => mul F a (f i)) n ^^^ mul F a (f n)
    rw [mul_xor_right h ha, mul_xs_right h ha (n := n)]

/-- The coefficient of a power. -/
def co (l : List Nat) (n : Nat) : Nat := if n < l.length then nth l (l.length - 1 - n) else 0
/-- All are elements. -/
def El (F : Fld) (l : List Nat) : Prop := ∀ j, nth l j < F.size
theorem co_lt {F : Fld} {l : List Nat} (h : El F l) (n : Nat) : co l n < F.size := by
  unfold co
  split
  · exact h _
  · have := h 0; omega
theorem co_past {l : List Nat} {n : Nat} (h : l.length ≤ n) : co l n = 0 := by unfold co; rw [if_neg (by omega)]
theorem nth_past {l : List Nat} {n : Nat} (h : l.length ≤ n) : nth l n = 0 := by unfold nth; rw [List.getD_eq_getElem?_getD, List.getElem?_eq_none h]; rfl
theorem nth_cons (a : Nat) (l : List Nat) (j : Nat) : nth (a :: l) j = if j = 0 then a else nth l (j - 1) := by
  cases j with
  | zero => rfl
  | succ j => rw [if_neg (by omega)]; rfl
theorem nth_append (a b : List Nat) (j : Nat) : nth (a ++ b) j = if j < a.length then nth a j else nth b (j - a.length) := by
  unfold nth
  rw [List.getD_eq_getElem?_getD, List.getElem?_append]
  split <;> rw [List.getD_eq_getElem?_getD]
theorem nth_map (f : Nat → Nat) (l : List Nat) (j : Nat) (hj : j < l.length) : nth (l.map f) j = f (nth l j) := by
  rw [nth_eq (by simpa using hj), nth_eq hj, List.getElem_map]
theorem co_cons (a : Nat) (l : List Nat) (n : Nat) : co (a :: l) n = if n = l.length then a else co l n := by
  unfold co
  rw [List.length_cons, nth_cons]
  by_cases h : n = l.length
  · subst h
    rw [if_pos (by omega), if_pos rfl, if_pos (by omega)]
  · rw [if_neg h]
    by_cases h2 : n < l.length
    · rw [if_pos (by omega), if_pos h2, if_neg (by omega)]
      congr 1; omega
    · rw [if_neg (by omega), if_neg h2]
theorem co_tidy : ∀ (l : List Nat) (n : Nat), co (tidy l) n = co l n
  | [], n => rfl
  | [a], n => rfl
  | a :: b :: t, n => by
    unfold tidy
    split
    · rename_i h
      subst h
      rw [co_tidy (b :: t) n, co_cons 0 (b :: t)]
      split
      · rename_i h; subst h; exact co_past (Nat.le_refl _)
      · rfl
    · rfl
theorem tidy_top {l : List Nat} (h : tidy l = l) (h2 : l ≠ []) (h3 : l ≠ [0]) : nth l 0 ≠ 0 := by
  intro h4
  rw [← h] at h4
  exact h3 (by rw [← h]; exact tidy_head l h2 h4)
theorem co_top {l : List Nat} (h : tidy l = l) (h2 : l ≠ []) (h3 : l ≠ [0]) : co l (l.length - 1) ≠ 0 := by
  have hl := List.length_pos_iff.2 h2
  unfold co
  rw [if_pos (by omega), show l.length - 1 - (l.length - 1) = 0 by omega]
  exact tidy_top h h2 h3
theorem co_ext_le {a b : List Nat} (hb : tidy b = b) (hbn : b ≠ []) (h : ∀ n, co a n = co b n) (ha : 1 ≤ a.length) : b.length ≤ a.length := by
  rcases Nat.lt_or_ge a.length b.length with hlt | hle
  · exfalso
    have h0 : b ≠ [0] := by intro e; rw [e] at hlt; have : ([0] : List Nat).length = 1 := rfl; omega
    exact co_top hb hbn h0 (by rw [← h]; exact co_past (by omega))
  · exact hle
/-- Tidy polynomials with the same coefficients are the same. -/
theorem co_ext {a b : List Nat} (ha : tidy a = a) (hb : tidy b = b) (han : a ≠ []) (hbn : b ≠ []) (h : ∀ n, co a n = co b n) : a = b := by
  have l1 := co_ext_le hb hbn h (List.length_pos_iff.2 han)
  have l2 := co_ext_le ha han (fun n => (h n).symm) (List.length_pos_iff.2 hbn)
  have hl : a.length = b.length := by omega
  apply List.ext_getElem hl
  intro i h1 h2
  have := h (a.length - 1 - i)
  unfold co at this
  rw [if_pos (by omega), if_pos (by omega), show a.length - 1 - (a.length - 1 - i) = i by omega, show b.length - 1 - (a.length - 1 - i) = i by omega, nth_eq h1, nth_eq h2] at this
  exact this
theorem tidy_le {l : List Nat} {k : Nat} (hk : 1 ≤ k) (hl : l ≠ []) (h : ∀ n, k ≤ n → co l n = 0) : (tidy l).length ≤ k := by
  rcases Nat.lt_or_ge k (tidy l).length with h1 | h1
  · exfalso
    have hne := tidy_ne l hl
    have h0 : tidy l ≠ [0] := by intro e; rw [e] at h1; simp at h1; omega
    exact co_top (tidy_tidy l) hne h0 (by rw [co_tidy]; exact h _ (by omega))
  · exact h1
theorem El.tidy {F : Fld} {l : List Nat} (h : El F l) : El F (tidy l) := by
  intro j
  have hs := h l.length
  by_cases hj : j < (RS.tidy l).length
  · have := co_lt h ((RS.tidy l).length - 1 - j)
    rw [← co_tidy] at this
    unfold co at this
    rw [if_pos (by omega), show (RS.tidy l).length - 1 - ((RS.tidy l).length - 1 - j) = j by omega] at this
    exact this
  · rw [nth_past (by omega)]; omega

theorem co_rawTo (a b : List Nat) (N n : Nat) (ha : a.length ≤ N) (hb : b.length ≤ N) : co (rawTo a b N N) n = co a n ^^^ co b n := by
  unfold co
  rw [rawTo_length]
  by_cases hn : n < N
  · rw [if_pos hn, rawTo_nth _ _ _ _ _ (by omega), if_pos (by omega)]
    congr 1
    · unfold pat
      by_cases h : n < a.length
      · rw [if_pos (by omega), if_pos h]; congr 1; omega
      · rw [if_neg (by omega), if_neg h]
    · unfold pat
      by_cases h : n < b.length
      · rw [if_pos (by omega), if_pos h]; congr 1; omega
      · rw [if_neg (by omega), if_neg h]
  · rw [if_neg hn, if_neg (by omega), if_neg (by omega)]; rfl
theorem co_plus (a b : List Nat) (n : Nat) : co (plus a b) n = co a n ^^^ co b n := by
  unfold plus
  rw [co_tidy, co_rawTo _ _ _ _ (by omega) (by omega)]
theorem plus_ne {a b : List Nat} (h : a ≠ [] ∨ b ≠ []) : plus a b ≠ [] := by
  refine tidy_ne _ (fun e => ?_)
  have := congrArg List.length e
  rw [rawTo_length, List.length_nil] at this
  rcases h with h | h
  · have := List.length_pos_iff.2 h; omega
  · have := List.length_pos_iff.2 h; omega
theorem plus_tidy (a b : List Nat) : tidy (plus a b) = plus a b := tidy_tidy _
theorem plus_el {F : Fld} (h : Six F) {a b : List Nat} (ha : El F a) (hb : El F b) : El F (plus a b) := by
  refine El.tidy fun j => ?_
  have hs := h.bounds
  by_cases hj : j < max a.length b.length
  · rw [rawTo_nth _ _ _ _ _ hj, if_pos hj]
    refine xor_lt_size h ?_ ?_
    · unfold pat; split
      · exact ha _
      · omega
    · unfold pat; split
      · exact hb _
      · omega
  · rw [nth_past (by rw [rawTo_length]; omega)]; omega
theorem plus_length (a b : List Nat) : (plus a b).length ≤ max a.length b.length := Nat.le_trans (tidy_length _) (by rw [rawTo_length]; exact Nat.le_refl _)

/-- A coefficient of a product. -/
def pm (F : Fld) (a b : Nat → Nat) (n : Nat) : Nat := xs (fun i => mul F (a i) (b (n - i))) (n + 1)
/-- The product's list, a row so far. -/
def prow (F : Fld) (a b : List Nat) (i : Nat) (o : List Nat) : Nat → List Nat
  | 0 => o
  | k + 1 => (prow F a b i o k).set (i + k) (nth (prow F a b i o k) (i + k) ^^^ mul F (nth a i) (nth b k))
/-- The product's list, so far. -/
def prows (F : Fld) (a b : List Nat) : Nat → List Nat
  | 0 => List.replicate (a.length + b.length - 1) 0
  | i + 1 => prow F a b i (prows F a b i) b.length
/-- The product of two polynomials. -/
def prod (F : Fld) (a b : List Nat) : List Nat := tidy (prows F a b a.length)
theorem prow_length (F : Fld) (a b : List Nat) (i : Nat) (o : List Nat) : ∀ k, (prow F a b i o k).length = o.length
  | 0 => rfl
  | k + 1 => by rw [prow, List.length_set, prow_length F a b i o k]
theorem prows_length (F : Fld) (a b : List Nat) : ∀ i, (prows F a b i).length = a.length + b.length - 1
  | 0 => by simp [prows]
  | i + 1 => by rw [prows, prow_length, prows_length F a b i]
theorem prow_nth (F : Fld) (a b : List Nat) (i : Nat) (o : List Nat) (j : Nat) : ∀ k, i + k ≤ o.length → nth (prow F a b i o k) j = if i ≤ j ∧ j < i + k then nth o j ^^^ mul F (nth a i) (nth b (j - i)) else nth o j
  | 0, _ => by rw [if_neg (by omega)]; rfl
  | k + 1, h => by
    rw [prow, nth_set (by rw [prow_length]; omega)]
    by_cases e : j = i + k
    · rw [if_pos e, if_pos (by omega), prow_nth F a b i o (i + k) k (by omega), if_neg (by omega), e, show i + k - i = k by omega]
    · rw [if_neg e, prow_nth F a b i o j k (by omega)]
      by_cases h2 : i ≤ j ∧ j < i + k
      · rw [if_pos h2, if_pos (by omega)]
      · rw [if_neg h2, if_neg (by omega)]
theorem prows_nth (F : Fld) (a b : List Nat) (j : Nat) : ∀ i, i ≤ a.length → nth (prows F a b i) j = xs (fun i => if i ≤ j ∧ j < i + b.length then mul F (nth a i) (nth b (j - i)) else 0) i
  | 0, _ => by rw [prows, nth_replicate]; split <;> rfl
  | i + 1, h => by
    rw [prows, prow_nth _ _ _ _ _ _ _ (by rw [prows_length]; omega), prows_nth F a b j i (by omega)]
    show _ = xs _ i ^^^ (if i ≤ j ∧ j < i + b.length then mul F (nth a i) (nth b (j - i)) else 0)
    split
    · rfl
    · rw [Nat.xor_zero]
theorem co_prows {F : Fld} (h : Six F) {a b : List Nat} (ha : El F a) (hb : El F b) (han : a ≠ []) (hbn : b ≠ []) (n : Nat) : co (prows F a b a.length) n = pm F (co a) (co b) n := by
  have hal := List.length_pos_iff.2 han
  have hbl := List.length_pos_iff.2 hbn
  have hzl : ∀ i, a.length ≤ i → mul F (co a i) (co b (n - i)) = 0 := fun i hi => by rw [co_past hi]; exact zero_mul h _
  have hzr : ∀ i, b.length ≤ n - i → mul F (co a i) (co b (n - i)) = 0 := fun i hi => by rw [co_past hi]; exact mul_zero h (co_lt ha _)
  unfold pm
  by_cases hn : n < a.length + b.length - 1
  · have e1 : co (prows F a b a.length) n = xs (fun i => if i ≤ a.length + b.length - 1 - 1 - n ∧ a.length + b.length - 1 - 1 - n < i + b.length then mul F (nth a i) (nth b (a.length + b.length - 1 - 1 - n - i)) else 0) a.length := by
      rw [co, prows_length, if_pos hn, prows_nth _ _ _ _ _ (Nat.le_refl _)]
    rw [e1, xs_rev]
    have e2 : ∀ i, i < a.length → (if a.length - 1 - i ≤ a.length + b.length - 1 - 1 - n ∧ a.length + b.length - 1 - 1 - n < a.length - 1 - i + b.length then mul F (nth a (a.length - 1 - i)) (nth b (a.length + b.length - 1 - 1 - n - (a.length - 1 - i))) else 0) = if i ≤ n then mul F (co a i) (co b (n - i)) else 0 := by
      intro i hi
      by_cases h1 : i ≤ n
      · rw [if_pos h1]
        by_cases h2 : n - i < b.length
        · rw [if_pos (by omega)]
          congr 1
          · unfold co; rw [if_pos hi]
          · unfold co; rw [if_pos h2]; congr 1; omega
        · rw [hzr i (by omega), if_neg (by omega)]
      · rw [if_neg h1, if_neg (by omega)]
    rw [xs_congr e2]
    have e3 : xs (fun i => mul F (co a i) (co b (n - i))) (n + 1) = xs (fun i => if i ≤ n then mul F (co a i) (co b (n - i)) else 0) (n + 1) := xs_congr fun i hi => by rw [if_pos (by omega)]
    rw [e3]
    by_cases hc : a.length ≤ n + 1
    · exact (xs_ext hc fun i h1 h2 => by rw [if_pos (by omega)]; exact hzl i h1).symm
    · exact xs_ext (by omega) fun i h1 h2 => if_neg (by omega)
  · rw [co_past (by rw [prows_length]; omega)]
    refine (xs_zero fun i hi => ?_).symm
    by_cases h1 : a.length ≤ i
    · exact hzl i h1
    · exact hzr i (by omega)
theorem prows_ne {F : Fld} {a b : List Nat} (han : a ≠ []) (hbn : b ≠ []) (i : Nat) : prows F a b i ≠ [] := by
  have hal := List.length_pos_iff.2 han
  have hbl := List.length_pos_iff.2 hbn
  intro e
  have := congrArg List.length e
  rw [prows_length, List.length_nil] at this
  omega
theorem co_prod {F : Fld} (h : Six F) {a b : List Nat} (ha : El F a) (hb : El F b) (han : a ≠ []) (hbn : b ≠ []) (n : Nat) : co (prod F a b) n = pm F (co a) (co b) n := by
  unfold prod; rw [co_tidy, co_prows h ha hb han hbn]
theorem prod_tidy (F : Fld) (a b : List Nat) : tidy (prod F a b) = prod F a b := tidy_tidy _
theorem prod_ne {F : Fld} {a b : List Nat} (han : a ≠ []) (hbn : b ≠ []) : prod F a b ≠ [] := tidy_ne _ (prows_ne han hbn _)
theorem prod_length (F : Fld) (a b : List Nat) : (prod F a b).length ≤ a.length + b.length - 1 := Nat.le_trans (tidy_length _) (by rw [prows_length]; exact Nat.le_refl _)
theorem prow_lt {F : Fld} (h : Six F) {a b : List Nat} (ha : El F a) (hb : El F b) (i : Nat) (o : List Nat) (ho : El F o) (k : Nat) (hk : i + k ≤ o.length) : El F (prow F a b i o k) := by
  intro j
  rw [prow_nth _ _ _ _ _ _ _ hk]
  split
  · exact xor_lt_size h (ho _) (mul_lt h (ha _))
  · exact ho _
theorem prows_el {F : Fld} (h : Six F) {a b : List Nat} (ha : El F a) (hb : El F b) : ∀ i, i ≤ a.length → El F (prows F a b i)
  | 0, _ => fun j => by have := h.bounds; rw [prows, nth_replicate]; split <;> omega
  | i + 1, hi => prow_lt h ha hb i _ (prows_el h ha hb i (by omega)) _ (by rw [prows_length]; omega)
theorem prod_el {F : Fld} (h : Six F) {a b : List Nat} (ha : El F a) (hb : El F b) : El F (prod F a b) := (prows_el h ha hb _ (Nat.le_refl _)).tidy

theorem pm_xor_left {F : Fld} (h : Six F) {a a' b : Nat → Nat} (ha : ∀ n, a n < F.size) (ha' : ∀ n, a' n < F.size) (n : Nat) : pm F (fun i => a i ^^^ a' i) b n = pm F a b n ^^^ pm F a' b n := by
  unfold pm
  rw [← xs_xor]
  exact xs_congr fun i _ => mul_xor_left h (ha i) (ha' i) _
theorem pm_xor_right {F : Fld} (h : Six F) {a b b' : Nat → Nat} (ha : ∀ n, a n < F.size) (n : Nat) : pm F a (fun i => b i ^^^ b' i) n = pm F a b n ^^^ pm F a b' n := by
  unfold pm
  rw [← xs_xor]
  exact xs_congr fun i _ => mul_xor_right h (ha i) _ _
/-- One power with a coefficient. -/
def mon (k c : Nat) (n : Nat) : Nat := if n = k then c else 0
/-- A polynomial times one power with a coefficient. -/
def shf (F : Fld) (b : Nat → Nat) (k c : Nat) (n : Nat) : Nat := if k ≤ n then mul F (b (n - k)) c else 0
theorem pm_mon_left {F : Fld} (h : Six F) {b : Nat → Nat} (hb : ∀ n, b n < F.size) (k : Nat) {c : Nat} (hc : c < F.size) (n : Nat) : pm F (mon k c) b n = shf F b k c n := by
  unfold pm shf
  split
  · rename_i hk
    rw [xs_one (k := k) (by omega) (fun i _ hi => by unfold mon; rw [if_neg hi]; exact zero_mul h _)]
    unfold mon
    rw [if_pos rfl]
    exact mul_comm h hc (hb _)
  · rename_i hk
    exact xs_zero fun i hi => by unfold mon; rw [if_neg (by omega)]; exact zero_mul h _
/-- The list of one power with a coefficient. -/
def monL (k c : Nat) : List Nat := if c = 0 then [0] else c :: List.replicate k 0
theorem co_zeros (k n : Nat) : co (List.replicate k 0) n = 0 := by
  unfold co
  rw [nth_replicate]
  split
  · split <;> rfl
  · rfl
theorem co_monL (k c n : Nat) : co (monL k c) n = mon k c n := by
  unfold monL mon
  split
  · rename_i h; subst h
    rw [co_cons]; split
    · split <;> rfl
    · split <;> exact co_past (by simp)
  · rw [co_cons, List.length_replicate, co_zeros]
theorem monL_tidy (k c : Nat) : tidy (monL k c) = monL k c := by
  unfold monL
  split
  · rfl
  · rename_i h
    cases k with
    | zero => rfl
    | succ k => rw [List.replicate_succ, tidy, if_neg h]
theorem monL_ne (k c : Nat) : monL k c ≠ [] := by unfold monL; split <;> simp
theorem monL_el {F : Fld} (h : Six F) (k : Nat) {c : Nat} (hc : c < F.size) : El F (monL k c) := by
  intro j
  have hs := h.bounds
  unfold monL
  split
  · rw [nth_cons]; split
    · omega
    · rw [nth_past (by simp)]; omega
  · rw [nth_cons]; split
    · exact hc
    · rw [nth_replicate]; split <;> omega
theorem monL_length (k c : Nat) : (monL k c).length ≤ k + 1 := by unfold monL; split <;> simp
/-- The list of a polynomial times one power with a coefficient. -/
def shfL (F : Fld) (l : List Nat) (k c : Nat) : List Nat := if c = 0 then [0] else tidy (l.map (fun x => mul F x c) ++ List.replicate k 0)
theorem co_shfL {F : Fld} (h : Six F) {l : List Nat} (hl : El F l) (k c n : Nat) : co (shfL F l k c) n = shf F (co l) k c n := by
  unfold shfL shf
  split
  · rename_i h0; subst h0
    rw [mul_zero h (co_lt hl _), co_cons]
    split
    · split <;> rfl
    · split <;> exact co_past (by simp)
  · rw [co_tidy]
    unfold co
    rw [List.length_append, List.length_map, List.length_replicate, nth_append, List.length_map]
    by_cases h1 : k ≤ n
    · rw [if_pos h1]
      by_cases h2 : n - k < l.length
      · rw [if_pos (by omega), if_pos (by omega), if_pos h2, nth_map _ _ _ (by omega)]
        congr 2; omega
      · rw [if_neg (by omega), if_neg h2]; exact (zero_mul h c).symm
    · rw [if_neg h1, nth_replicate]
      split
      · split
        · omega
        · split <;> rfl
      · rfl
theorem shfL_tidy (F : Fld) (l : List Nat) (k c : Nat) : tidy (shfL F l k c) = shfL F l k c := by
  unfold shfL; split
  · rfl
  · exact tidy_tidy _
theorem shfL_ne {F : Fld} {l : List Nat} (hl : l ≠ []) (k c : Nat) : shfL F l k c ≠ [] := by
  unfold shfL; split
  · simp
  · exact tidy_ne _ (by simp [hl])
theorem shfL_length (F : Fld) {l : List Nat} (hl : l ≠ []) (k c : Nat) : (shfL F l k c).length ≤ l.length + k := by
  have := List.length_pos_iff.2 hl
  unfold shfL; split
  · simp; omega
  · exact Nat.le_trans (tidy_length _) (by simp)
theorem shfL_el {F : Fld} (h : Six F) {l : List Nat} (hl : El F l) (k c : Nat) : El F (shfL F l k c) := by
  have hs := h.bounds
  unfold shfL; split
  · intro j; rw [nth_cons]; split
    · omega
    · rw [nth_past (by simp)]; omega
  · refine El.tidy fun j => ?_
    rw [nth_append]
    split
    · rename_i hj
      rw [nth_map _ _ _ (by simpa using hj)]; exact mul_lt h (hl _)
    · rw [nth_replicate]; split <;> omega

/-- What a division keeps: p is q times d and r. -/
structure Dv (F : Fld) (p d q r : List Nat) : Prop where
  qt : tidy q = q
  qn : q ≠ []
  qe : El F q
  ql : q.length ≤ p.length
  rt : tidy r = r
  rn : r ≠ []
  re : El F r
  rl : r.length ≤ p.length
  eq : ∀ n, pm F (co q) (co d) n ^^^ co r n = co p n
theorem Dv.start {F : Fld} (h : Six F) {p d : List Nat} (hp : tidy p = p) (hpn : p ≠ []) (hpe : El F p) (hd : El F d) : Dv F p d [0] p := by
  have hs := h.bounds
  refine ⟨rfl, by simp, fun j => ?_, List.length_pos_iff.2 hpn, hp, hpn, hpe, Nat.le_refl _, fun n => ?_⟩
  · rw [nth_cons]; split
    · omega
    · rw [nth_past (by simp)]; omega
  · have : pm F (co [0]) (co d) n = 0 := xs_zero fun i _ => by
      have : co [0] i = 0 := by rw [co_cons]; split
                                · rfl
                                · exact co_past (by simp)
      rw [this]; exact zero_mul h _
    rw [this, Nat.zero_xor]
/-- The leading coefficient's part. -/
def scale (F : Fld) (d r : List Nat) : Nat := mul F (nth r 0) (inv F (nth d 0))
theorem Dv.step {F : Fld} (h : Six F) {p d q r : List Nat} (hd : tidy d = d) (hdn : d ≠ []) (hde : El F d) (hd0 : d ≠ [0]) (v : Dv F p d q r) (hlen : d.length ≤ r.length) (hr0 : r ≠ [0]) :
    Dv F p d (plus q (monL (r.length - d.length) (scale F d r))) (plus r (shfL F d (r.length - d.length) (scale F d r))) ∧
      ((plus r (shfL F d (r.length - d.length) (scale F d r))).length < r.length ∨ plus r (shfL F d (r.length - d.length) (scale F d r)) = [0]) := by
  have hrl := List.length_pos_iff.2 v.rn
  have hdl := List.length_pos_iff.2 hdn
  have hinv := inv_lt h (nth d 0)
  have hsc : scale F d r < F.size := mul_lt h (v.re 0)
  have hk : ∃ k, k = r.length - d.length := ⟨_, rfl⟩
  obtain ⟨k, hk⟩ := hk
  rw [← hk]
  have hle := monL_el h k hsc
  have hse := shfL_el h hde k (scale F d r)
  have hmul : mul F (nth d 0) (scale F d r) = nth r 0 := by
    unfold scale
    rw [← mul_assoc h (hde 0) (v.re 0) hinv, mul_comm h (hde 0) (v.re 0), mul_assoc h (v.re 0) (hde 0) hinv, mul_inv h (hde 0) (tidy_top hd hdn hd0), mul_one h (v.re 0)]
  have htop : ∀ n, r.length - 1 ≤ n → co (plus r (shfL F d k (scale F d r))) n = 0 := by
    intro n hn
    rw [co_plus, co_shfL h hde]
    by_cases e : n = r.length - 1
    · subst e
      unfold shf co
      rw [if_pos (by omega), if_pos (by omega), if_pos (by omega), show r.length - 1 - (r.length - 1) = 0 by omega, show d.length - 1 - (r.length - 1 - k) = 0 by omega, hmul, Nat.xor_self]
    · rw [co_past (by omega)]
      unfold shf
      split
      · rw [co_past (by omega), zero_mul h]; rfl
      · rfl
  have hpn : plus r (shfL F d k (scale F d r)) ≠ [] := plus_ne (.inl v.rn)
  have hlen2 : (plus r (shfL F d k (scale F d r))).length ≤ max r.length (shfL F d k (scale F d r)).length := plus_length _ _
  have hsl := shfL_length F hdn k (scale F d r)
  have hml := monL_length k (scale F d r)
  have hpl := plus_length q (monL k (scale F d r))
  have := v.rl
  have := v.ql
  refine ⟨⟨plus_tidy _ _, plus_ne (.inl v.qn), plus_el h v.qe hle, by omega, plus_tidy _ _, hpn, plus_el h v.re hse, by omega, fun n => ?_⟩, ?_⟩
  · have e1 : pm F (co (plus q (monL k (scale F d r)))) (co d) n = pm F (co q) (co d) n ^^^ shf F (co d) k (scale F d r) n := by
      rw [show co (plus q (monL k (scale F d r))) = fun i => co q i ^^^ mon k (scale F d r) i from funext fun i => by rw [co_plus, co_monL]]
      rw [pm_xor_left h (co_lt v.qe) (fun n => by unfold mon; split <;> omega), pm_mon_left h (co_lt hde) k hsc]
    rw [e1, co_plus, co_shfL h hde, xor4, Nat.xor_self, Nat.xor_zero]; exact v.eq n
  · by_cases h1 : r.length = 1
    · right
      have h2 : (plus r (shfL F d k (scale F d r))).length ≤ 1 := by
        have := tidy_le (l := plus r (shfL F d k (scale F d r))) (k := 1) (by omega) hpn (fun n hn => htop n (by omega))
        rwa [plus_tidy] at this
      exact co_ext (plus_tidy _ _) rfl hpn (by simp) fun n => by
        rw [htop n (by omega), co_cons]
        split
        · rfl
        · exact (co_past (by simp)).symm
    · left
      have := tidy_le (l := plus r (shfL F d k (scale F d r))) (k := r.length - 1) (by omega) hpn htop
      rw [plus_tidy] at this
      omega
theorem Dv.law {F : Fld} (h : Six F) {p d q r : List Nat} (hp : tidy p = p) (hpn : p ≠ []) (hdn : d ≠ []) (hde : El F d) (v : Dv F p d q r) : plus (prod F q d) r = p :=
  co_ext (plus_tidy _ _) hp (plus_ne (.inr v.rn)) hpn fun n => by rw [co_plus, co_prod h v.qe hde v.qn hdn]; exact v.eq n
end Go.Qz.RS
namespace Go.Qz.RS
open Go.Qz
set_option linter.unusedVariables false

/-- The powers of an element. -/
def pw (F : Fld) (x : Nat) : Nat → Nat
  | 0 => 1
  | i + 1 => mul F (pw F x i) x
theorem pw_lt {F : Fld} (h : Six F) {x : Nat} : ∀ i, pw F x i < F.size
  | 0 => by have := h.bounds; show 1 < F.size; omega
  | i + 1 => mul_lt h (pw_lt h i)
theorem one_mul {F : Fld} (h : Six F) {a : Nat} (ha : a < F.size) : mul F 1 a = a := by
  have hs := h.bounds
  rw [mul_comm h (by omega) ha, mul_one h ha]
theorem pw_ex {F : Fld} (h : Six F) (j : Nat) : ∀ i, pw F (ex F j) i = ex F (j * i)
  | 0 => rfl
  | i + 1 => by
    show mul F (pw F (ex F j) i) (ex F j) = _
    rw [pw_ex h j i, mul_ex h, Nat.mul_succ]
theorem pw_add {F : Fld} (h : Six F) {x : Nat} (hx : x < F.size) (i : Nat) : ∀ j, pw F x (i + j) = mul F (pw F x i) (pw F x j)
  | 0 => (mul_one h (pw_lt h i)).symm
  | j + 1 => by
    show mul F (pw F x (i + j)) x = mul F (pw F x i) (mul F (pw F x j) x)
    rw [pw_add h hx i j, mul_assoc h (pw_lt h i) (pw_lt h j) hx]

/-- The value by the first coefficients. -/
def ve (F : Fld) (a : Nat → Nat) (x n : Nat) : Nat := xs (fun i => mul F (a i) (pw F x i)) n
/-- The value of a polynomial. -/
def ev (F : Fld) (l : List Nat) (x : Nat) : Nat := ve F (co l) x l.length
theorem ve_succ (F : Fld) (a : Nat → Nat) (x n : Nat) : ve F a x (n + 1) = ve F a x n ^^^ mul F (a n) (pw F x n) := rfl
theorem ve_congr {F : Fld} {a b : Nat → Nat} {x n : Nat} (h : ∀ i, i < n → a i = b i) : ve F a x n = ve F b x n := xs_congr fun i hi => by
  show mul F (a i) _ = mul F (b i) _
  rw [h i hi]
theorem ve_zero {F : Fld} (h : Six F) {a : Nat → Nat} {x n : Nat} (ha : ∀ i, i < n → a i = 0) : ve F a x n = 0 := xs_zero fun i hi => by
  show mul F (a i) _ = 0
  rw [ha i hi, zero_mul h]
theorem ve_lt {F : Fld} (h : Six F) {a : Nat → Nat} (ha : ∀ i, a i < F.size) (x n : Nat) : ve F a x n < F.size := xs_lt h fun i _ => mul_lt h (ha i)
theorem ve_ext {F : Fld} (h : Six F) {a : Nat → Nat} {x m n : Nat} (hmn : m ≤ n) (ha : ∀ i, m ≤ i → a i = 0) : ve F a x n = ve F a x m := xs_ext hmn fun i h1 _ => by
  show mul F (a i) _ = 0
  rw [ha i h1, zero_mul h]
theorem ve_xor {F : Fld} (h : Six F) {a b : Nat → Nat} (ha : ∀ i, a i < F.size) (hb : ∀ i, b i < F.size) (x n : Nat) : ve F (fun i => a i ^^^ b i) x n = ve F a x n ^^^ ve F b x n := by
  unfold ve
  rw [← xs_xor]
  exact xs_congr fun i _ => mul_xor_left h (ha i) (hb i) _
theorem ev_of_le {F : Fld} (h : Six F) {l : List Nat} {n : Nat} (hn : l.length ≤ n) (x : Nat) : ve F (co l) x n = ev F l x := ve_ext h hn fun i hi => co_past hi
theorem ev_congr {F : Fld} (h : Six F) {a b : List Nat} (hc : ∀ n, co a n = co b n) (x : Nat) : ev F a x = ev F b x := by
  rw [← ev_of_le h (Nat.le_max_left a.length b.length), ← ev_of_le h (Nat.le_max_right a.length b.length)]
  exact ve_congr fun i _ => hc i
theorem ev_lt {F : Fld} (h : Six F) {l : List Nat} (hl : El F l) (x : Nat) : ev F l x < F.size := ve_lt h (co_lt hl) x _
theorem ev_tidy {F : Fld} (h : Six F) (l : List Nat) (x : Nat) : ev F (tidy l) x = ev F l x := ev_congr h (co_tidy l) x
/-- The value of a list whose coefficients are sums. -/
theorem ev_sum {F : Fld} (h : Six F) {a b c : List Nat} (ha : El F a) (hb : El F b) (hc : ∀ n, co c n = co a n ^^^ co b n) (x : Nat) : ev F c x = ev F a x ^^^ ev F b x := by
  obtain ⟨N, hN⟩ : ∃ N, N = max c.length (max a.length b.length) := ⟨_, rfl⟩
  rw [← ev_of_le h (show c.length ≤ N by omega), ← ev_of_le h (show a.length ≤ N by omega), ← ev_of_le h (show b.length ≤ N by omega), ← ve_xor h (co_lt ha) (co_lt hb)]
  exact ve_congr fun i _ => hc i
theorem ev_plus {F : Fld} (h : Six F) {a b : List Nat} (ha : El F a) (hb : El F b) (x : Nat) : ev F (plus a b) x = ev F a x ^^^ ev F b x := ev_sum h ha hb (co_plus a b) x

theorem ve_shf {F : Fld} (h : Six F) {b : Nat → Nat} (hb : ∀ n, b n < F.size) (k : Nat) {c x : Nat} (hc : c < F.size) (hx : x < F.size) : ∀ m, ve F (shf F b k c) x (k + m) = mul F (mul F c (pw F x k)) (ve F b x m)
  | 0 => by
    rw [ve_zero h (fun i hi => by unfold shf; rw [if_neg (by omega)])]
    show 0 = mul F _ 0
    rw [mul_zero h (mul_lt h hc)]
  | m + 1 => by
    rw [← Nat.add_assoc, ve_succ, ve_shf h hb k hc hx m, ve_succ, mul_xor_right h (mul_lt h hc)]
    congr 1
    unfold shf
    rw [if_pos (by omega), show k + m - k = m by omega, pw_add h hx]
    have p1 := pw_lt h (x := x) k
    have p2 := pw_lt h (x := x) m
    rw [mul_assoc h (hb m) hc (mul_lt h p1), mul_assoc h hc p1 (mul_lt h (hb m)), mul_comm h (hb m) (mul_lt h hc), mul_assoc h hc (mul_lt h p1) (hb m), mul_assoc h p1 p2 (hb m), mul_comm h p2 (hb m)]

/-- The first ones of a list of coefficients. -/
def tr (a : Nat → Nat) (n i : Nat) : Nat := if i < n then a i else 0
theorem tr_lt {F : Fld} (h : Six F) {a : Nat → Nat} (ha : ∀ i, a i < F.size) (n i : Nat) : tr a n i < F.size := by
  unfold tr
  split
  · exact ha i
  · have := h.bounds; omega
theorem tr_succ (a : Nat → Nat) (n : Nat) : tr a (n + 1) = fun i => tr a n i ^^^ mon n (a n) i := by
  funext i
  unfold tr mon
  by_cases h1 : i < n
  · rw [if_pos (by omega), if_pos h1, if_neg (by omega), Nat.xor_zero]
  · by_cases h2 : i = n
    · subst h2
      rw [if_pos (by omega), if_neg h1, if_pos rfl, Nat.zero_xor]
    · rw [if_neg (by omega), if_neg h1, if_neg h2]; rfl
theorem mon_lt {F : Fld} (h : Six F) (k : Nat) {c : Nat} (hc : c < F.size) (n : Nat) : mon k c n < F.size := by
  unfold mon
  split
  · exact hc
  · omega
theorem pm_lt {F : Fld} (h : Six F) {a b : Nat → Nat} (ha : ∀ n, a n < F.size) (n : Nat) : pm F a b n < F.size := xs_lt h fun i _ => mul_lt h (ha i)
theorem pm_past {F : Fld} (h : Six F) {a b : Nat → Nat} {n m : Nat} (ha : ∀ i, a i < F.size) (han : ∀ i, n ≤ i → a i = 0) (hbm : ∀ j, m ≤ j → b j = 0) {k : Nat} (hk : n + m ≤ k + 1) (hn : 1 ≤ n) : pm F a b k = 0 ∨ k + 1 = n + m := by
  by_cases e : k + 1 = n + m
  · exact .inr e
  · left
    refine xs_zero fun i hi => ?_
    show mul F (a i) (b (k - i)) = 0
    by_cases h1 : i < n
    · rw [hbm _ (by omega), mul_zero h (ha i)]
    · rw [han i (by omega), zero_mul h]
theorem ve_pm_tr {F : Fld} (h : Six F) {a b : Nat → Nat} (ha : ∀ i, a i < F.size) (hb : ∀ i, b i < F.size) {x : Nat} (hx : x < F.size) {m : Nat} (hbm : ∀ j, m ≤ j → b j = 0) : ∀ n, ve F (pm F (tr a n) b) x (n + m) = mul F (ve F a x n) (ve F b x m)
  | 0 => by
    have hz : ∀ i, i < 0 + m → pm F (tr a 0) b i = 0 := fun i _ => xs_zero fun j _ => by
      show mul F (tr a 0 j) _ = 0
      rw [show tr a 0 j = 0 by unfold tr; rw [if_neg (by omega)], zero_mul h]
    rw [ve_zero h hz]
    show 0 = mul F 0 _
    rw [zero_mul h]
  | n + 1 => by
    have e1 : pm F (tr a (n + 1)) b = fun i => pm F (tr a n) b i ^^^ shf F b n (a n) i := by
      funext i
      rw [tr_succ, pm_xor_left h (tr_lt h ha n) (mon_lt h n (ha n)), pm_mon_left h hb n (ha n)]
    have sl : ∀ i, shf F b n (a n) i < F.size := fun i => by
      unfold shf; split
      · exact mul_lt h (hb _)
      · have := h.bounds; omega
    rw [e1, ve_xor h (pm_lt h (tr_lt h ha n)) sl]
    rw [show n + 1 + m = n + m + 1 by omega]
    have e2 : ve F (pm F (tr a n) b) x (n + m + 1) = ve F (pm F (tr a n) b) x (n + m) := by
      rw [ve_succ]
      have : pm F (tr a n) b (n + m) = 0 := xs_zero fun i hi => by
        show mul F (tr a n i) (b (n + m - i)) = 0
        by_cases h1 : i < n
        · rw [hbm _ (by omega), mul_zero h (tr_lt h ha n i)]
        · rw [show tr a n i = 0 by unfold tr; rw [if_neg h1], zero_mul h]
      rw [this, zero_mul h, Nat.xor_zero]
    have e3 : ve F (shf F b n (a n)) x (n + m + 1) = ve F (shf F b n (a n)) x (n + m) := by
      rw [ve_succ]
      have : shf F b n (a n) (n + m) = 0 := by
        unfold shf
        rw [if_pos (by omega), hbm _ (by omega), zero_mul h]
      rw [this, zero_mul h, Nat.xor_zero]
    rw [e2, e3, ve_pm_tr h ha hb hx hbm n, ve_shf h hb n (ha n) hx m, ve_succ, mul_xor_left h (ve_lt h ha x n) (mul_lt h (ha n))]
theorem tr_all {a : Nat → Nat} {n : Nat} (h : ∀ i, n ≤ i → a i = 0) : tr a n = a := by
  funext i
  unfold tr
  split
  · rfl
  · exact (h i (by omega)).symm
/-- The value of a list whose coefficients are those of a product. -/
theorem ev_mul {F : Fld} (h : Six F) {a b c : List Nat} (ha : El F a) (hb : El F b) (hc : ∀ n, co c n = pm F (co a) (co b) n) {x : Nat} (hx : x < F.size) : ev F c x = mul F (ev F a x) (ev F b x) := by
  have e := ve_pm_tr h (co_lt ha) (co_lt hb) hx (m := b.length) (fun j hj => co_past hj) a.length
  rw [tr_all (fun i hi => co_past hi)] at e
  show _ = mul F (ve F (co a) x a.length) (ve F (co b) x b.length)
  rw [← e]
  have hz : ∀ i, a.length + b.length ≤ i → pm F (co a) (co b) i = 0 := fun i hi => xs_zero fun j hj => by
    show mul F (co a j) (co b (i - j)) = 0
    by_cases h1 : j < a.length
    · rw [co_past (l := b) (by omega), mul_zero h (co_lt ha j)]
    · rw [co_past (l := a) (by omega), zero_mul h]
  rw [← ev_of_le h (Nat.le_max_left c.length (a.length + b.length)), ← ve_ext h (Nat.le_max_right c.length (a.length + b.length)) hz]
  exact ve_congr fun i _ => hc i
theorem ev_prod {F : Fld} (h : Six F) {a b : List Nat} (ha : El F a) (hb : El F b) (han : a ≠ []) (hbn : b ≠ []) {x : Nat} (hx : x < F.size) : ev F (prod F a b) x = mul F (ev F a x) (ev F b x) := ev_mul h ha hb (co_prod h ha hb han hbn) hx

theorem prod_zero {F : Fld} (h : Six F) {b : List Nat} (hb : El F b) (hbn : b ≠ []) : prod F [0] b = [0] := by
  have hs := h.bounds
  have h0 : El F [0] := fun j => by
    rcases j with _ | j
    · show 0 < F.size; omega
    · show 0 < F.size; omega
  refine co_ext (prod_tidy F _ _) rfl (prod_ne (by simp) hbn) (by simp) fun n => ?_
  rw [co_prod h h0 hb (by simp) hbn]
  have z : ∀ i, co [0] i = 0 := fun i => co_zeros 1 i
  rw [z n]
  refine xs_zero fun i hi => ?_
  show mul F (co [0] i) _ = 0
  rw [z i, zero_mul h]
theorem prod_zero' {F : Fld} (h : Six F) {a : List Nat} (ha : El F a) (han : a ≠ []) : prod F a [0] = [0] := by
  have hs := h.bounds
  have h0 : El F [0] := fun j => by
    rcases j with _ | j
    · show 0 < F.size; omega
    · show 0 < F.size; omega
  refine co_ext (prod_tidy F _ _) rfl (prod_ne han (by simp)) (by simp) fun n => ?_
  rw [co_prod h ha h0 han (by simp)]
  have z : ∀ i, co [0] i = 0 := fun i => co_zeros 1 i
  rw [z n]
  refine xs_zero fun i hi => ?_
  show mul F (co a i) (co [0] (n - i)) = 0
  rw [z _, mul_zero h (co_lt ha i)]

/-- The generator with so many roots. -/
def gen (F : Fld) : Nat → List Nat
  | 0 => [1]
  | d + 1 => prod F (gen F d) [1, ex F (d + F.base)]
theorem gen_ne (F : Fld) : ∀ d, gen F d ≠ []
  | 0 => by simp [gen]
  | d + 1 => prod_ne (gen_ne F d) (by simp)
theorem lin_el {F : Fld} (h : Six F) {e : Nat} (he : e < F.size) : El F [1, e] := by
  have hs := h.bounds
  intro j
  rcases j with _ | _ | j
  · show 1 < F.size; omega
  · exact he
  · show 0 < F.size; omega
theorem gen_el {F : Fld} (h : Six F) : ∀ d, El F (gen F d)
  | 0 => by
    have hs := h.bounds
    intro j
    rcases j with _ | j
    · show 1 < F.size; omega
    · show 0 < F.size; omega
  | d + 1 => prod_el h (gen_el h d) (lin_el h (ex_lt F (by have := h.bounds; omega) _))
theorem gen_tidy (F : Fld) : ∀ d, tidy (gen F d) = gen F d
  | 0 => rfl
  | d + 1 => prod_tidy F _ _
theorem co_lin (e n : Nat) : co [1, e] n = if n = 0 then e else if n = 1 then 1 else 0 := by
  rcases n with _ | _ | n
  · rfl
  · rfl
  · rw [co_past (by simp)]; simp
theorem gen_top {F : Fld} (h : Six F) : ∀ d, (gen F d).length = d + 1 ∧ co (gen F d) d = 1
  | 0 => ⟨rfl, rfl⟩
  | d + 1 => by
    have hs := h.bounds
    obtain ⟨i1, i2⟩ := gen_top h d
    have hel := lin_el h (ex_lt F (by omega) (d + F.base))
    have hc : co (gen F (d + 1)) (d + 1) = 1 := by
      show co (prod F (gen F d) _) _ = 1
      rw [co_prod h (gen_el h d) hel (gen_ne F d) (by simp)]
      unfold pm
      rw [xs_one (k := d) (by omega) (fun i hi hne => ?_)]
      · show mul F (co (gen F d) d) (co [1, ex F (d + F.base)] (d + 1 - d)) = 1
        rw [i2, show d + 1 - d = 1 by omega]
        exact mul_one h (by omega)
      · show mul F (co (gen F d) i) (co [1, ex F (d + F.base)] (d + 1 - i)) = 0
        by_cases h1 : i < d
        · rw [co_past (l := [1, ex F (d + F.base)]) (by simp; omega), mul_zero h (co_lt (gen_el h d) i)]
        · rw [co_past (l := gen F d) (by omega), zero_mul h]
    refine ⟨?_, hc⟩
    have hle := prod_length F (gen F d) [1, ex F (d + F.base)]
    rw [i1] at hle
    have hge : d + 1 < (gen F (d + 1)).length := by
      rcases Nat.lt_or_ge (d + 1) (gen F (d + 1)).length with h1 | h1
      · exact h1
      · rw [co_past h1] at hc; cases hc
    have : (gen F (d + 1)).length ≤ d + 1 + [1, ex F (d + F.base)].length - 1 := hle
    simp at this
    omega
theorem ev_lin {F : Fld} (h : Six F) {e x : Nat} (he : e < F.size) (hx : x < F.size) : ev F [1, e] x = e ^^^ x := by
  have hs := h.bounds
  show (0 ^^^ mul F e 1) ^^^ mul F 1 (mul F 1 x) = e ^^^ x
  rw [Nat.zero_xor, mul_one h he, one_mul h hx, one_mul h hx]
theorem gen_root {F : Fld} (h : Six F) : ∀ d i, i < d → ev F (gen F d) (ex F (i + F.base)) = 0
  | 0, i, hi => absurd hi (by omega)
  | d + 1, i, hi => by
    have hs := h.bounds
    have hx := ex_lt F (by omega) (i + F.base)
    have he := ex_lt F (by omega) (d + F.base)
    show ev F (prod F (gen F d) _) _ = 0
    rw [ev_prod h (gen_el h d) (lin_el h he) (gen_ne F d) (by simp) hx, ev_lin h he hx]
    by_cases e : i = d
    · subst e
      rw [Nat.xor_self, mul_zero h (ev_lt h (gen_el h _) _)]
    · rw [gen_root h d i (by omega), zero_mul h]

/-- What is encoded. -/
def coded (data : List Nat) (r : List Nat) (ec : Nat) : List Nat := data ++ List.replicate (ec - r.length) 0 ++ r
theorem co_append (a b : List Nat) (n : Nat) : co (a ++ b) n = if n < b.length then co b n else co a (n - b.length) := by
  unfold co
  rw [List.length_append]
  by_cases h1 : n < b.length
  · rw [if_pos (by omega), if_pos h1, if_pos h1, nth_append, if_neg (by omega)]
    congr 1; omega
  · rw [if_neg h1]
    by_cases h2 : n < a.length + b.length
    · rw [if_pos h2, if_pos (by omega), nth_append, if_pos (by omega)]
      congr 1; omega
    · rw [if_neg h2, if_neg (by omega)]
theorem co_coded (data r : List Nat) (ec n : Nat) (hr : r.length ≤ ec) : co (coded data r ec) n = if ec ≤ n then co data (n - ec) else co r n := by
  unfold coded
  rw [co_append]
  by_cases h1 : n < r.length
  · rw [if_pos h1, if_neg (by omega)]
  · rw [if_neg h1, co_append, List.length_replicate]
    by_cases h2 : n - r.length < ec - r.length
    · rw [if_pos h2, if_neg (by omega), co_zeros, co_past (by omega)]
    · rw [if_neg h2, if_pos (by omega)]
      congr 1; omega
/-- What is encoded is zero at each root. -/
theorem coded_root {F : Fld} (h : Six F) {data q r : List Nat} {ec : Nat} (hd : El F data) (hdn : data ≠ []) (hq : El F q) (hr : El F r) (hqn : q ≠ []) (hrl : r.length ≤ ec)
    (hl : plus (prod F q (gen F ec)) r = shfL F (tidy data) ec 1) (i : Nat) (hi : i < ec) : ev F (coded data r ec) (ex F (i + F.base)) = 0 := by
  have hs := h.bounds
  have hx := ex_lt F (by omega) (i + F.base)
  have hp := prod_el h hq (gen_el h ec)
  have hc : ∀ n, co (prod F q (gen F ec)) n = co (coded data r ec) n := by
    intro n
    have e1 := co_plus (prod F q (gen F ec)) r n
    rw [hl, co_shfL h hd.tidy] at e1
    rw [co_coded _ _ _ _ hrl]
    have e2 : co (prod F q (gen F ec)) n = shf F (co (tidy data)) ec 1 n ^^^ co r n := by
      rw [e1, Nat.xor_assoc, Nat.xor_self, Nat.xor_zero]
    rw [e2]
    unfold shf
    split
    · rw [co_past (l := r) (by omega), Nat.xor_zero, co_tidy, mul_one h (co_lt hd _)]
    · rw [Nat.zero_xor]
  rw [← ev_congr h hc, ev_prod h hq (gen_el h ec) hqn (gen_ne F ec) hx, gen_root h ec i hi, mul_zero h (ev_lt h hq _)]
end Go.Qz.RS
namespace Go.Qz.RS
open Go.Qz
set_option linter.unusedVariables false

/-- A series over a field. -/
structure Ser (F : Fld) (h : Six F) where
  c : Nat → Nat
  lt : ∀ n, c n < F.size
variable {F : Fld} {h : Six F}
theorem Ser.same {a b : Ser F h} (e : ∀ n, a.c n = b.c n) : a = b := by
  cases a with
  | mk x hx =>
    cases b with
    | mk y hy =>
      have : x = y := funext e
      subst this; rfl
instance : Add (Ser F h) := ⟨fun a b => ⟨fun n => a.c n ^^^ b.c n, fun n => xor_lt_size h (a.lt n) (b.lt n)⟩⟩
instance : Mul (Ser F h) := ⟨fun a b => ⟨pm F a.c b.c, pm_lt h a.lt⟩⟩
/-- Nothing; a coefficient times a power. -/
def zr : Ser F h := ⟨fun _ => 0, fun _ => by have := h.bounds; omega⟩
def mo (k : Nat) (x : Nat) (hx : x < F.size) : Ser F h := ⟨mon k x, mon_lt h k hx⟩
theorem one_lt : 1 < F.size ∨ ¬ Six F := by
  by_cases hh : Six F
  · left; have := hh.bounds; omega
  · exact .inr hh
def xp (k : Nat) : Ser F h := mo k 1 (by have := h.bounds; omega)
def on : Ser F h := xp 0
theorem add_c (a b : Ser F h) (n : Nat) : (a + b).c n = a.c n ^^^ b.c n := rfl
theorem mul_c (a b : Ser F h) (n : Nat) : (a * b).c n = pm F a.c b.c n := rfl
theorem sadd_comm (a b : Ser F h) : a + b = b + a := Ser.same fun n => Nat.xor_comm _ _
theorem sadd_assoc (a b d : Ser F h) : a + b + d = a + (b + d) := Ser.same fun n => Nat.xor_assoc _ _ _
theorem sadd_self (a : Ser F h) : a + a = zr := Ser.same fun n => Nat.xor_self _
theorem sadd_zr (a : Ser F h) : a + zr = a := Ser.same fun n => Nat.xor_zero _
theorem zr_sadd (a : Ser F h) : zr + a = a := Ser.same fun n => Nat.zero_xor _
theorem sadd_move {a b : Ser F h} (e : a + b = zr) : a = b := by
  have : a + b + b = b := by rw [e, zr_sadd]
  rwa [sadd_assoc, sadd_self, sadd_zr] at this
theorem pm_comm {a b : Nat → Nat} (ha : ∀ n, a n < F.size) (hb : ∀ n, b n < F.size) (h : Six F) (n : Nat) : pm F a b n = pm F b a n := by
  unfold pm
  rw [xs_rev]
  refine xs_congr fun i hi => ?_
  show mul F (a (n + 1 - 1 - i)) (b (n - (n + 1 - 1 - i))) = mul F (b i) (a (n - i))
  rw [show n + 1 - 1 - i = n - i by omega, show n - (n - i) = i by omega, mul_comm h (ha _) (hb _)]
theorem smul_comm (a b : Ser F h) : a * b = b * a := Ser.same fun n => pm_comm a.lt b.lt h n
theorem smul_add (a b d : Ser F h) : a * (b + d) = a * b + a * d := Ser.same fun n => pm_xor_right h a.lt n
theorem sadd_mul (a b d : Ser F h) : (a + b) * d = a * d + b * d := Ser.same fun n => pm_xor_left h a.lt b.lt n
theorem xs_skip (f : Nat → Nat) (k : Nat) (hz : ∀ i, i < k → f i = 0) : ∀ m, xs f (k + m) = xs (fun j => f (k + j)) m
  | 0 => xs_zero hz
  | m + 1 => by
    show xs f (k + m) ^^^ f (k + m) = xs (fun j => f (k + j)) m ^^^ f (k + m)
    rw [xs_skip f k hz m]
theorem pm_shf (h : Six F) {b d : Nat → Nat} (hb : ∀ n, b n < F.size) (hd : ∀ n, d n < F.size) (k : Nat) {x : Nat} (hx : x < F.size) (n : Nat) : pm F (shf F b k x) d n = shf F (pm F b d) k x n := by
  by_cases hk : k ≤ n
  · obtain ⟨m, rfl⟩ : ∃ m, n = k + m := ⟨n - k, by omega⟩
    have e : shf F (pm F b d) k x (k + m) = mul F (pm F b d m) x := by
      unfold shf; rw [if_pos (by omega), show k + m - k = m by omega]
    rw [e]
    unfold pm
    rw [show k + m + 1 = k + (m + 1) by omega, xs_skip _ k (fun i hi => by
      show mul F (shf F b k x i) _ = 0
      unfold shf; rw [if_neg (by omega), zero_mul h]), mul_xs_left h x (fun i _ => mul_lt h (hb i))]
    refine xs_congr fun j hj => ?_
    show mul F (shf F b k x (k + j)) (d (k + m - (k + j))) = mul F (mul F (b j) (d (m - j))) x
    unfold shf
    rw [if_pos (by omega), show k + j - k = j by omega, show k + m - (k + j) = m - j by omega, mul_assoc h (hb j) hx (hd _), mul_assoc h (hb j) (hd _) hx, mul_comm h hx (hd _)]
  · have e : shf F (pm F b d) k x n = 0 := by unfold shf; rw [if_neg hk]
    rw [e]
    refine xs_zero fun i hi => ?_
    show mul F (shf F b k x i) _ = 0
    unfold shf; rw [if_neg (by omega), zero_mul h]
theorem pm_tr {a b : Nat → Nat} {n N : Nat} (hN : n < N) : pm F (tr a N) b n = pm F a b n := xs_congr fun i hi => by
  show mul F (tr a N i) _ = mul F (a i) _
  unfold tr; rw [if_pos (by omega)]
theorem pm_nul (h : Six F) {a b : Nat → Nat} (ha : ∀ i, a i = 0) (n : Nat) : pm F a b n = 0 := xs_zero fun i _ => by
  show mul F (a i) _ = 0
  rw [ha i, zero_mul h]
theorem pm_assoc_tr (h : Six F) {a b d : Nat → Nat} (ha : ∀ n, a n < F.size) (hb : ∀ n, b n < F.size) (hd : ∀ n, d n < F.size) (n : Nat) : ∀ N, pm F (pm F (tr a N) b) d n = pm F (tr a N) (pm F b d) n
  | 0 => by
    have z : ∀ i, tr a 0 i = 0 := fun i => by unfold tr; rw [if_neg (by omega)]
    rw [pm_nul h (fun i => pm_nul h z i), pm_nul h z]
  | N + 1 => by
    have e1 : pm F (tr a (N + 1)) b = fun i => pm F (tr a N) b i ^^^ shf F b N (a N) i := by
      funext i
      rw [tr_succ, pm_xor_left h (tr_lt h ha N) (mon_lt h N (ha N)), pm_mon_left h hb N (ha N)]
    have sl : ∀ i, shf F b N (a N) i < F.size := fun i => by
      unfold shf; split
      · exact mul_lt h (hb _)
      · have := h.bounds; omega
    rw [e1, pm_xor_left h (pm_lt h (tr_lt h ha N)) sl, pm_assoc_tr h ha hb hd n N, pm_shf h hb hd N (ha N), tr_succ, pm_xor_left h (tr_lt h ha N) (mon_lt h N (ha N)), pm_mon_left h (pm_lt h hb) N (ha N)]
theorem smul_assoc (a b d : Ser F h) : a * b * d = a * (b * d) := Ser.same fun n => by
  have := pm_assoc_tr h a.lt b.lt d.lt n (n + 1)
  show pm F (pm F a.c b.c) d.c n = pm F a.c (pm F b.c d.c) n
  rw [← pm_tr (a := a.c) (Nat.lt_succ_self n), ← this]
  refine xs_congr fun i hi => ?_
  show mul F (pm F a.c b.c i) _ = mul F (pm F (tr a.c (n + 1)) b.c i) _
  rw [pm_tr (by omega)]
theorem smul_left_comm (a b d : Ser F h) : a * (b * d) = b * (a * d) := by rw [← smul_assoc, smul_comm a b, smul_assoc]
theorem mo_mul (k : Nat) {x : Nat} (hx : x < F.size) (a : Ser F h) (n : Nat) : (mo k x hx * a).c n = if k ≤ n then mul F (a.c (n - k)) x else 0 := pm_mon_left h a.lt k hx n
theorem xp_mul (k : Nat) (a : Ser F h) (n : Nat) : (xp k * a).c n = if k ≤ n then a.c (n - k) else 0 := by
  unfold xp
  rw [mo_mul]
  split
  · exact mul_one h (a.lt _)
  · rfl
theorem on_mul (a : Ser F h) : on * a = a := Ser.same fun n => by
  show (xp 0 * a).c n = _
  rw [xp_mul, if_pos (by omega)]; rfl
theorem mul_on (a : Ser F h) : a * on = a := by rw [smul_comm, on_mul]
theorem zr_mul (a : Ser F h) : zr * a = zr := Ser.same fun n => pm_nul h (fun _ => rfl) n
theorem mul_zr (a : Ser F h) : a * zr = zr := by rw [smul_comm, zr_mul]
theorem on_c (n : Nat) : (on : Ser F h).c n = if n = 0 then 1 else 0 := rfl

/-- Nothing from a power on. -/
def Deg (p : Ser F h) (n : Nat) : Prop := ∀ i, n ≤ i → p.c i = 0
theorem Deg.mono {p : Ser F h} {n m : Nat} (d : Deg p n) (hm : n ≤ m) : Deg p m := fun i hi => d i (by omega)
theorem Deg.add {p q : Ser F h} {n : Nat} (d : Deg p n) (e : Deg q n) : Deg (p + q) n := fun i hi => by rw [add_c, d i hi, e i hi]; rfl
theorem Deg.mul {p q : Ser F h} {n m : Nat} (d : Deg p n) (e : Deg q m) : Deg (p * q) (n + m - 1) := fun k hk => xs_zero fun i hi => by
  show RS.mul F (p.c i) (q.c (k - i)) = 0
  by_cases h1 : i < n
  · rw [e _ (by omega), RS.mul_zero h (p.lt i)]
  · rw [d _ (by omega), zero_mul h]
theorem Deg.on : Deg (on : Ser F h) 1 := fun i hi => by rw [on_c, if_neg (by omega)]
/-- The value of a series of a degree. -/
def at_ (p : Ser F h) (n x : Nat) : Nat := ve F p.c x n
theorem at_lt (p : Ser F h) (n x : Nat) : at_ p n x < F.size := ve_lt h p.lt x n
theorem at_ext {p : Ser F h} {n m : Nat} (d : Deg p n) (hm : n ≤ m) (x : Nat) : at_ p m x = at_ p n x := ve_ext h hm d
theorem at_mul {p q : Ser F h} {n m : Nat} (d : Deg p n) (e : Deg q m) {x : Nat} (hx : x < F.size) : at_ (p * q) (n + m) x = RS.mul F (at_ p n x) (at_ q m x) := by
  have := ve_pm_tr h p.lt q.lt hx e n
  rw [tr_all d] at this
  exact this
theorem at_add (p q : Ser F h) (n x : Nat) : at_ (p + q) n x = at_ p n x ^^^ at_ q n x := ve_xor h p.lt q.lt x n

/-- A series with a coefficient of the power 0 divides nothing but nothing. -/
theorem unit_cancel {u w : Ser F h} (hu : u.c 0 ≠ 0) (e : u * w = zr) : w = zr := by
  have key : ∀ N n, n < N → w.c n = 0 := by
    intro N
    induction N with
    | zero => intro n hn; omega
    | succ N ih =>
      intro n hn
      by_cases h1 : n < N
      · exact ih n h1
      · obtain rfl : n = N := by omega
        have e2 : (u * w).c n = 0 := by rw [e]; rfl
        rw [mul_c] at e2
        unfold pm at e2
        rw [xs_one (k := 0) (by omega) (fun i hi hne => by
          show RS.mul F (u.c i) (w.c (n - i)) = 0
          rw [ih _ (by omega), RS.mul_zero h (u.lt i)])] at e2
        have e3 : RS.mul F (u.c 0) (w.c n) = 0 := e2
        rcases Nat.eq_zero_or_pos (w.c n) with h2 | h2
        · exact h2
        · exact absurd e3 (mul_ne_zero h (u.lt 0) (w.lt n) hu (by omega))
  exact Ser.same fun n => key (n + 1) n (by omega)
theorem unit_inj {u a b : Ser F h} (hu : u.c 0 ≠ 0) (e : u * a = u * b) : a = b := by
  refine sadd_move (unit_cancel hu ?_)
  rw [smul_add, e, sadd_self]
theorem unit_of {t v : Ser F h} (e : t * v = on) : t.c 0 ≠ 0 := by
  intro h0
  have e2 : (t * v).c 0 = 1 := by rw [e]; rfl
  rw [mul_c] at e2
  have e3 : 0 ^^^ RS.mul F (t.c 0) (v.c 0) = 1 := e2
  rw [h0, zero_mul h] at e3
  cases e3
theorem top_of {p : Ser F h} {i : Nat} (hi : p.c i ≠ 0) : ∀ n, Deg p n → ∃ k, i ≤ k ∧ p.c k ≠ 0 ∧ Deg p (k + 1)
  | 0, d => absurd (d i (by omega)) hi
  | n + 1, d => by
    by_cases h0 : p.c n = 0
    · exact top_of hi n fun j hj => by
        by_cases e : j = n
        · rw [e, h0]
        · exact d j (by omega)
    · refine ⟨n, ?_, h0, d⟩
      rcases Nat.lt_or_ge n i with h1 | h1
      · exact absurd (d i (by omega)) hi
      · exact h1
theorem top_mul {p q : Ser F h} {a b : Nat} (d : Deg p (a + 1)) (e : Deg q (b + 1)) : (p * q).c (a + b) = RS.mul F (p.c a) (q.c b) := by
  rw [mul_c]
  unfold pm
  rw [xs_one (k := a) (by omega) (fun i hi hne => by
    show RS.mul F (p.c i) (q.c (a + b - i)) = 0
    by_cases h1 : i < a
    · rw [e _ (by omega), RS.mul_zero h (p.lt i)]
    · rw [d _ (by omega), zero_mul h])]
  show RS.mul F (p.c a) (q.c (a + b - a)) = _
  rw [show a + b - a = b by omega]
/-- Two polynomials whose product is 1 are constants. -/
theorem const_of {q w : Ser F h} {n m : Nat} (dq : Deg q n) (dw : Deg w m) (e : q * w = on) : Deg q 1 := by
  have q0 := unit_of e
  have w0 := unit_of (by rw [smul_comm]; exact e)
  obtain ⟨a, _, ha, da⟩ := top_of q0 n dq
  obtain ⟨b, _, hb, db⟩ := top_of w0 m dw
  have := top_mul da db
  rw [e, on_c] at this
  by_cases hab : a + b = 0
  · have : a = 0 := by omega
    subst this; exact da
  · rw [if_neg hab] at this
    exact absurd this.symm (mul_ne_zero h (q.lt a) (w.lt b) ha hb)
end Go.Qz.RS
namespace Go.Qz.RS
open Go.Qz
set_option linter.unusedVariables false
variable {F : Fld} {h : Six F}

theorem exl (h : Six F) (j : Nat) : ex F j < F.size := ex_lt F (by have := h.bounds; omega) j
theorem ex_ne (h : Six F) {j : Nat} (hj : j < F.size - 1) : ex F j ≠ 0 := by have := ex_pos h j hj; omega
theorem ex_inj (h : Six F) {i j : Nat} (hi : i < F.size - 1) (hj : j < F.size - 1) (e : ex F i = ex F j) : i = j := by
  rw [← lg_ex h hi, ← lg_ex h hj, e]
/-- The inverse of a power. -/
theorem inv_ex (h : Six F) {j : Nat} (hj : j < F.size - 1) : mul F (ex F j) (inv F (ex F j)) = 1 := mul_inv h (exl h j) (ex_ne h hj)
theorem fac_zero (h : Six F) {j : Nat} (hj : j < F.size - 1) : 1 ^^^ mul F (ex F j) (inv F (ex F j)) = 0 := by rw [inv_ex h hj]; rfl
theorem fac_ne (h : Six F) {i j : Nat} (hi : i < F.size - 1) (hj : j < F.size - 1) (hne : i ≠ j) : 1 ^^^ mul F (ex F i) (inv F (ex F j)) ≠ 0 := by
  intro e
  have e2 : mul F (ex F i) (inv F (ex F j)) = 1 := by
    have : 1 ^^^ (1 ^^^ mul F (ex F i) (inv F (ex F j))) = 1 ^^^ 0 := by rw [e]
    rwa [← Nat.xor_assoc, Nat.xor_self, Nat.zero_xor, Nat.xor_zero] at this
  have e3 : mul F (mul F (ex F i) (inv F (ex F j))) (ex F j) = ex F j := by rw [e2, one_mul h (exl h j)]
  rw [mul_assoc h (exl h i) (inv_lt h _) (exl h j), mul_comm h (inv_lt h _) (exl h j), inv_ex h hj, mul_one h (exl h i)] at e3
  exact hne (ex_inj h hi hj e3)

/-- 1 + X x. -/
def li (X : Nat) (hX : X < F.size) : Ser F h := on + mo 1 X hX
theorem li_mul (X : Nat) (hX : X < F.size) (a : Ser F h) (n : Nat) : (li X hX * a).c n = a.c n ^^^ (if 1 ≤ n then mul F (a.c (n - 1)) X else 0) := by
  unfold li
  rw [sadd_mul, add_c, on_mul, mo_mul]
theorem li_deg (X : Nat) (hX : X < F.size) : Deg (li X hX : Ser F h) 2 := fun i hi => by
  show (on : Ser F h).c i ^^^ mon 1 X i = 0
  rw [on_c, if_neg (by omega)]
  unfold mon; rw [if_neg (by omega)]; rfl
theorem li_at (X : Nat) (hX : X < F.size) {x : Nat} (hx : x < F.size) : at_ (li X hX : Ser F h) 2 x = 1 ^^^ mul F X x := by
  have hs := h.bounds
  show (0 ^^^ mul F (1 ^^^ 0) 1) ^^^ mul F (0 ^^^ X) (mul F 1 x) = _
  rw [Nat.zero_xor, Nat.zero_xor, Nat.xor_zero, mul_one h (by omega), one_mul h hx]
theorem li_1 (X : Nat) (hX : X < F.size) : (li X hX : Ser F h).c 1 = X := by
  show 0 ^^^ X = X
  rw [Nat.zero_xor]

/-- The locator of errors at some powers. -/
def loc : List Nat → Ser F h
  | [] => on
  | j :: J => li (ex F j) (exl h j) * loc J
theorem loc_deg : ∀ J : List Nat, Deg (loc J : Ser F h) (J.length + 1)
  | [] => Deg.on
  | j :: J => (li_deg (ex F j) (exl h j)).mul (loc_deg J) |>.mono (by simp; omega)
theorem loc_0 : ∀ J : List Nat, (loc J : Ser F h).c 0 = 1
  | [] => rfl
  | j :: J => by
    show (li (ex F j) (exl h j) * loc J : Ser F h).c 0 = 1
    rw [li_mul, if_neg (by omega), Nat.xor_zero, loc_0 J]
theorem loc_top : ∀ J : List Nat, (∀ j ∈ J, j < F.size - 1) → (loc J : Ser F h).c J.length ≠ 0
  | [], _ => by show (1 : Nat) ≠ 0; omega
  | j :: J, hJ => by
    have e := top_mul (h := h) (li_deg (ex F j) (exl h j)) (loc_deg J)
    rw [li_1] at e
    show (li (ex F j) (exl h j) * loc J : Ser F h).c (J.length + 1) ≠ 0
    rw [Nat.add_comm, e]
    exact mul_ne_zero h (exl h j) (Ser.lt _ _) (ex_ne h (hJ j (by simp))) (loc_top J (fun k hk => hJ k (by simp [hk])))
/-- The locator's value. -/
def lev (F : Fld) (x : Nat) : List Nat → Nat
  | [] => 1
  | j :: J => mul F (1 ^^^ mul F (ex F j) x) (lev F x J)
theorem fac_lt (h : Six F) (j : Nat) (x : Nat) : 1 ^^^ mul F (ex F j) x < F.size := xor_lt_size h (by have := h.bounds; omega) (mul_lt h (exl h j))
theorem lev_lt (h : Six F) (x : Nat) : ∀ J, lev F x J < F.size
  | [] => by have := h.bounds; show 1 < F.size; omega
  | j :: J => mul_lt h (fac_lt h j x)
theorem loc_at {x : Nat} (hx : x < F.size) : ∀ J : List Nat, at_ (loc J : Ser F h) (J.length + 1) x = lev F x J
  | [] => by
    have hs := h.bounds
    show 0 ^^^ mul F 1 1 = 1
    rw [Nat.zero_xor, mul_one h (by omega)]
  | j :: J => by
    have e := at_mul (h := h) (li_deg (ex F j) (exl h j)) (loc_deg J) hx
    rw [li_at _ _ hx, loc_at hx J] at e
    have e2 := at_ext (m := 2 + (J.length + 1)) (loc_deg (h := h) (j :: J)) (by have : (j :: J).length = J.length + 1 := rfl; omega) x
    exact e2.symm.trans e
theorem lev_zero (h : Six F) {i : Nat} (hi : i < F.size - 1) : ∀ J : List Nat, i ∈ J → lev F (inv F (ex F i)) J = 0
  | j :: J, hm => by
    show mul F (1 ^^^ mul F (ex F j) _) (lev F _ J) = 0
    by_cases e : j = i
    · subst e
      rw [fac_zero h hi, zero_mul h]
    · have : i ∈ J := by
        rcases List.mem_cons.1 hm with h1 | h1
        · exact absurd h1.symm e
        · exact h1
      rw [lev_zero h hi J this, mul_zero h (fac_lt h _ _)]
theorem lev_ne (h : Six F) {i : Nat} (hi : i < F.size - 1) : ∀ J : List Nat, (∀ j ∈ J, j < F.size - 1) → i ∉ J → lev F (inv F (ex F i)) J ≠ 0
  | [], _, _ => by show (1 : Nat) ≠ 0; omega
  | j :: J, hJ, hm => by
    have h1 : j ≠ i := fun e => hm (by simp [e])
    exact mul_ne_zero h (fac_lt h _ _) (lev_lt h _ J) (fac_ne h (hJ j (by simp)) hi h1) (lev_ne h hi J (fun k hk => hJ k (by simp [hk])) (fun hk => hm (by simp [hk])))

/-- What errors make of all roots, as a series. -/
def geo (j b y : Nat) (hy : y < F.size) : Ser F h := ⟨fun i => mul F y (ex F (j * (i + b))), fun _ => mul_lt h hy⟩
def syn (Y : Nat → Nat) (hY : ∀ j, Y j < F.size) (b : Nat) : List Nat → Ser F h
  | [] => zr
  | j :: J => geo j b (Y j) (hY j) + syn Y hY b J
/-- The evaluator. -/
def evl (Y : Nat → Nat) (hY : ∀ j, Y j < F.size) (b : Nat) : List Nat → Ser F h
  | [] => zr
  | j :: J => li (ex F j) (exl h j) * evl Y hY b J + mo 0 (mul F (Y j) (ex F (j * b))) (mul_lt h (hY j)) * loc J
theorem geo_li (j b y : Nat) (hy : y < F.size) : li (ex F j) (exl h j) * geo j b y hy = (mo 0 (mul F y (ex F (j * b))) (mul_lt h hy) : Ser F h) := Ser.same fun n => by
  rw [li_mul]
  show mul F y (ex F (j * (n + b))) ^^^ (if 1 ≤ n then mul F (mul F y (ex F (j * (n - 1 + b)))) (ex F j) else 0) = if n = 0 then mul F y (ex F (j * b)) else 0
  by_cases hn : n = 0
  · subst hn
    rw [if_neg (by omega), if_pos rfl, Nat.zero_add, Nat.xor_zero]
  · rw [if_pos (by omega), if_neg hn, mul_assoc h hy (exl h _) (exl h j), mul_ex h, ← Nat.mul_succ, show (n - 1 + b).succ = n + b by omega, Nat.xor_self]
variable {Y : Nat → Nat} {hY : ∀ j, Y j < F.size} {b : Nat}
theorem syn_loc : ∀ J : List Nat, (syn Y hY b J * loc J : Ser F h) = evl Y hY b J
  | [] => zr_mul _
  | j :: J => by
    show (geo j b (Y j) (hY j) + syn Y hY b J) * (li (ex F j) (exl h j) * loc J) = li (ex F j) (exl h j) * evl Y hY b J + _ * loc J
    rw [sadd_mul, ← geo_li j b (Y j) (hY j), ← syn_loc J, sadd_comm]
    congr 1
    · rw [smul_left_comm]
    · rw [← smul_assoc, smul_comm (geo j b (Y j) (hY j))]
theorem mo0_deg (x : Nat) (hx : x < F.size) : Deg (mo 0 x hx : Ser F h) 1 := fun i hi => by
  show mon 0 x i = 0
  unfold mon; rw [if_neg (by omega)]
theorem mo0_at (x : Nat) (hx : x < F.size) (y : Nat) : at_ (mo 0 x hx : Ser F h) 1 y = x := by
  show 0 ^^^ mul F x 1 = x
  rw [Nat.zero_xor, mul_one h hx]
theorem evl_deg : ∀ J : List Nat, Deg (evl Y hY b J : Ser F h) J.length
  | [] => fun _ _ => rfl
  | j :: J => by
    refine Deg.add ?_ ?_
    · exact ((li_deg (ex F j) (exl h j)).mul (evl_deg J)).mono (by have : (j :: J).length = J.length + 1 := rfl; omega)
    · exact ((mo0_deg _ _).mul (loc_deg J)).mono (by have : (j :: J).length = J.length + 1 := rfl; omega)
/-- The locator's value but for one power. -/
def levx (F : Fld) (x i : Nat) : List Nat → Nat
  | [] => 1
  | j :: J => if j = i then levx F x i J else mul F (1 ^^^ mul F (ex F j) x) (levx F x i J)
theorem levx_lt (h : Six F) (x i : Nat) : ∀ J, levx F x i J < F.size
  | [] => by have := h.bounds; show 1 < F.size; omega
  | j :: J => by
    unfold levx
    split
    · exact levx_lt h x i J
    · exact mul_lt h (fac_lt h j x)
theorem levx_out (x i : Nat) : ∀ J : List Nat, i ∉ J → levx F x i J = lev F x J
  | [], _ => rfl
  | j :: J, hm => by
    unfold levx
    rw [if_neg (fun e => hm (by simp [e])), levx_out x i J (fun hk => hm (by simp [hk]))]; rfl
theorem levx_ne (h : Six F) {i : Nat} (hi : i < F.size - 1) : ∀ J : List Nat, (∀ j ∈ J, j < F.size - 1) → levx F (inv F (ex F i)) i J ≠ 0
  | [], _ => by show (1 : Nat) ≠ 0; omega
  | j :: J, hJ => by
    have ih := levx_ne h hi J (fun k hk => hJ k (by simp [hk]))
    unfold levx
    split
    · exact ih
    · rename_i e
      exact mul_ne_zero h (fac_lt h _ _) (levx_lt h _ _ J) (fac_ne h (hJ j (by simp)) hi e) ih
theorem at_same {p : Ser F h} {n m : Nat} (d : Deg p n) (e : Deg p m) (x : Nat) : at_ p n x = at_ p m x := by
  rw [← at_ext d (Nat.le_max_left n m), ← at_ext e (Nat.le_max_right n m)]
theorem evl_at {i : Nat} (hi : i < F.size - 1) : ∀ J : List Nat, J.Nodup → i ∈ J → at_ (evl Y hY b J : Ser F h) J.length (inv F (ex F i)) = mul F (mul F (Y i) (ex F (i * b))) (levx F (inv F (ex F i)) i J)
  | j :: J, nd, hm => by
    have hxl := inv_lt h (ex F i)
    obtain ⟨nj, nd'⟩ := List.nodup_cons.1 nd
    have e1 : at_ (li (ex F j) (exl h j) * evl Y hY b J : Ser F h) (J.length + 1) (inv F (ex F i)) = mul F (1 ^^^ mul F (ex F j) (inv F (ex F i))) (at_ (evl Y hY b J : Ser F h) J.length (inv F (ex F i))) := by
      have e := at_mul (h := h) (li_deg (ex F j) (exl h j)) (evl_deg (Y := Y) (hY := hY) (b := b) J) hxl
      rw [li_at _ _ hxl] at e
      rw [← e]
      exact (at_ext (((li_deg (ex F j) (exl h j)).mul (evl_deg J)).mono (by omega)) (by omega) _).symm
    have e2 : at_ (mo 0 (mul F (Y j) (ex F (j * b))) (mul_lt h (hY j)) * loc J : Ser F h) (J.length + 1) (inv F (ex F i)) = mul F (mul F (Y j) (ex F (j * b))) (lev F (inv F (ex F i)) J) := by
      have e := at_mul (h := h) (mo0_deg (mul F (Y j) (ex F (j * b))) (mul_lt h (hY j))) (loc_deg J) hxl
      rw [mo0_at, loc_at hxl] at e
      rw [← e]
      exact (at_ext (((mo0_deg _ _).mul (loc_deg J)).mono (by omega)) (by omega) _).symm
    show at_ (li (ex F j) (exl h j) * evl Y hY b J + _ * loc J : Ser F h) (J.length + 1) _ = _
    rw [at_add, e1, e2]
    by_cases e : j = i
    · subst e
      rw [fac_zero h hi, zero_mul h, Nat.zero_xor]
      unfold levx
      rw [if_pos rfl, levx_out _ _ J nj]
    · have hm' : i ∈ J := by
        rcases List.mem_cons.1 hm with h1 | h1
        · exact absurd h1.symm e
        · exact h1
      rw [lev_zero h hi J hm', RS.mul_zero h (mul_lt h (hY j)), Nat.xor_zero, evl_at hi J nd' hm']
      have hyl : mul F (Y i) (ex F (i * b)) < F.size := mul_lt h (hY i)
      have hll := levx_lt h (inv F (ex F i)) i J
      have hfl := fac_lt h j (inv F (ex F i))
      show mul F _ (mul F _ (levx F _ i J)) = mul F _ (if j = i then _ else mul F _ (levx F _ i J))
      rw [if_neg e, ← mul_assoc h hfl hyl hll, mul_comm h hfl hyl, mul_assoc h hyl hfl hll]
theorem evl_ne (hY0 : ∀ j, Y j ≠ 0) {i : Nat} (hi : i < F.size - 1) (hib : ex F (i * b) ≠ 0) {J : List Nat} (nd : J.Nodup) (hJ : ∀ j ∈ J, j < F.size - 1) (hm : i ∈ J) : at_ (evl Y hY b J : Ser F h) J.length (inv F (ex F i)) ≠ 0 := by
  rw [evl_at hi J nd hm]
  exact mul_ne_zero h (mul_lt h (hY i)) (levx_lt h _ _ J) (mul_ne_zero h (hY i) (exl h _) (hY0 i) hib) (levx_ne h hi J hJ)

/-- The quotient by 1 + X x. -/
def quo (F : Fld) (p : Nat → Nat) (X : Nat) : Nat → Nat
  | 0 => p 0
  | k + 1 => p (k + 1) ^^^ mul F (quo F p X k) X
theorem quo_lt (h : Six F) {p : Nat → Nat} (hp : ∀ n, p n < F.size) {X : Nat} : ∀ k, quo F p X k < F.size
  | 0 => hp 0
  | k + 1 => xor_lt_size h (hp _) (mul_lt h (quo_lt h hp k))
theorem quo_ve (h : Six F) {p : Nat → Nat} (hp : ∀ n, p n < F.size) {X x : Nat} (hX : X < F.size) (hx : x < F.size) (hXx : mul F X x = 1) : ∀ k, mul F (quo F p X k) (pw F x k) = ve F p x (k + 1)
  | 0 => by
    show mul F (p 0) 1 = 0 ^^^ mul F (p 0) 1
    rw [Nat.zero_xor]
  | k + 1 => by
    have q := quo_lt h hp (X := X) k
    have pl := pw_lt h (x := x) k
    rw [ve_succ, ← quo_ve h hp hX hx hXx k]
    show mul F (p (k + 1) ^^^ mul F (quo F p X k) X) (pw F x (k + 1)) = _
    rw [mul_xor_left h (hp _) (mul_lt h q), Nat.xor_comm]
    congr 1
    show mul F (mul F (quo F p X k) X) (mul F (pw F x k) x) = mul F (quo F p X k) (pw F x k)
    rw [mul_comm h pl hx, mul_assoc h q hX (mul_lt h hx), ← mul_assoc h hX hx pl, hXx, one_mul h pl]
theorem pw_ne (h : Six F) {x : Nat} (hx : x < F.size) (h0 : x ≠ 0) : ∀ k, pw F x k ≠ 0
  | 0 => by show (1 : Nat) ≠ 0; omega
  | k + 1 => mul_ne_zero h (pw_lt h k) hx (pw_ne h hx h0 k) h0
theorem factor (p : Ser F h) (n : Nat) (d : Deg p (n + 1)) {X x : Nat} (hX : X < F.size) (hx : x < F.size) (hXx : mul F X x = 1) (hz : at_ p (n + 1) x = 0) : ∃ q : Ser F h, Deg q n ∧ p = li X hX * q := by
  refine ⟨⟨quo F p.c X, quo_lt h p.lt⟩, fun k hk => ?_, Ser.same fun k => ?_⟩
  · have x0 : x ≠ 0 := by intro e; rw [e, mul_zero h hX] at hXx; cases hXx
    have e := quo_ve h p.lt hX hx hXx k
    have e2 : ve F p.c x (k + 1) = 0 := (at_ext d (by omega) x).trans hz
    rw [e2] at e
    rcases Nat.eq_zero_or_pos (quo F p.c X k) with h1 | h1
    · exact h1
    · exact absurd e (mul_ne_zero h (quo_lt h p.lt k) (pw_lt h k) (by omega) (pw_ne h hx x0 k))
  · rw [li_mul]
    show p.c k = quo F p.c X k ^^^ (if 1 ≤ k then mul F (quo F p.c X (k - 1)) X else 0)
    rcases k with _ | k
    · rw [if_neg (by omega), Nat.xor_zero]; rfl
    · rw [if_pos (by omega), Nat.add_sub_cancel]
      show p.c (k + 1) = (p.c (k + 1) ^^^ mul F (quo F p.c X k) X) ^^^ mul F (quo F p.c X k) X
      rw [Nat.xor_assoc, Nat.xor_self, Nat.xor_zero]
theorem factor_all : ∀ J : List Nat, J.Nodup → (∀ j ∈ J, j < F.size - 1) → ∀ (n : Nat) (p : Ser F h), Deg p (n + J.length) → (∀ j ∈ J, at_ p (n + J.length) (inv F (ex F j)) = 0) → ∃ q : Ser F h, Deg q n ∧ p = q * loc J
  | [], _, _, n, p, d, _ => ⟨p, d, (mul_on p).symm⟩
  | j :: J, nd, hJ, n, p, d, hz => by
    obtain ⟨nj, nd'⟩ := List.nodup_cons.1 nd
    have hjl := hJ j (by simp)
    obtain ⟨q1, d1, e1⟩ := factor p (n + J.length) d (exl h j) (inv_lt h _) (inv_ex h hjl) (hz j (by simp))
    obtain ⟨q, d2, e2⟩ := factor_all J nd' (fun k hk => hJ k (by simp [hk])) n q1 d1 (fun i hi => by
      have hil := hJ i (by simp [hi])
      have z := hz i (by simp [hi])
      have e := at_mul (h := h) (li_deg (ex F j) (exl h j)) d1 (inv_lt h (ex F i))
      rw [← e1, at_ext d (by have : (j :: J).length = J.length + 1 := rfl; omega), z, li_at _ _ (inv_lt h _)] at e
      rcases Nat.eq_zero_or_pos (at_ q1 (n + J.length) (inv F (ex F i))) with h1 | h1
      · exact h1
      · exact absurd e.symm (mul_ne_zero h (fac_lt h _ _) (at_lt _ _ _) (fac_ne h hjl hil (fun e => nj (e ▸ hi))) (by omega)))
    refine ⟨q, d2, ?_⟩
    rw [e1, e2]
    show _ = q * (li (ex F j) (exl h j) * loc J)
    rw [smul_left_comm]

/-- What Euclid's algorithm ends with: a multiple of the locator and of the evaluator. -/
theorem euclid_end (hY0 : ∀ j, Y j ≠ 0) {J : List Nat} (nd : J.Nodup) (hJ : ∀ j ∈ J, j < F.size - 1) (hJb : ∀ j ∈ J, ex F (j * b) ≠ 0) {M : Nat} (hν : 2 * J.length ≤ M)
    (S t r s tL sL : Ser F h) (hS : ∀ i, i < M → S.c i = (syn Y hY b J : Ser F h).c i) (dS : Deg S M)
    (e1 : r = s * xp M + t * S) (e3 : s * tL + sL * t = on) {nr nt nl nm : Nat} (dr : Deg r nr) (dt : Deg t nt) (dtL : Deg tL nl) (dsL : Deg sL nm) (br : 2 * nr ≤ M + 1) (bt : 2 * nt ≤ M + 2) :
    ∃ k, k < F.size ∧ k ≠ 0 ∧ (∀ i, t.c i = mul F ((loc J : Ser F h).c i) k) ∧ (∀ i, r.c i = mul F ((evl Y hY b J : Ser F h).c i) k) := by
  obtain ⟨Sh, hSh⟩ : ∃ Sh : Ser F h, Sh = syn Y hY b J := ⟨_, rfl⟩
  obtain ⟨T, hT⟩ : ∃ T : Ser F h, T = ⟨fun i => Sh.c (i + M), fun i => Sh.lt _⟩ := ⟨_, rfl⟩
  have hsum : Sh = S + xp M * T := Ser.same fun n => by
    rw [add_c, xp_mul]
    by_cases hn : M ≤ n
    · rw [if_pos hn, dS n hn, Nat.zero_xor, hT]
      show Sh.c n = Sh.c (n - M + M)
      congr 1; omega
    · rw [if_neg hn, Nat.xor_zero, hS n (by omega), hSh]
  have hl : Sh * loc J = evl Y hY b J := by rw [hSh]; exact syn_loc J
  have hl0 : (loc J : Ser F h).c 0 ≠ 0 := by rw [loc_0]; omega
  have hA : r + t * Sh = xp M * (s + t * T) := by
    rw [e1, hsum, smul_add t, sadd_assoc, ← sadd_assoc (t * S), sadd_self, zr_sadd, smul_add, smul_comm s, smul_left_comm]
  have hB : r * loc J + t * evl Y hY b J = xp M * ((s + t * T) * loc J) := by
    rw [← hl, ← smul_assoc t, ← sadd_mul, hA, smul_assoc]
  have dB : Deg (r * loc J + t * evl Y hY b J) M := Deg.add ((dr.mul (loc_deg J)).mono (by omega)) ((dt.mul (evl_deg J)).mono (by omega))
  have hC : (s + t * T) * loc J = zr := Ser.same fun n => by
    have e := dB (n + M) (by omega)
    rw [hB, xp_mul, if_pos (by omega), Nat.add_sub_cancel] at e
    exact e
  have hD : s = t * T := sadd_move (unit_cancel hl0 (by rw [smul_comm]; exact hC))
  have hE : r = t * Sh := sadd_move (by rw [hA, hD, sadd_self, mul_zr])
  have hF : t * (T * tL + sL) = on := by rw [← e3, hD, smul_add, smul_assoc, smul_comm sL]
  have ht0 := unit_of hF
  have hG : t * evl Y hY b J = r * loc J := by rw [← hl, hE, smul_assoc]
  have hroot : ∀ j ∈ J, at_ t nt (inv F (ex F j)) = 0 := fun j hj => by
    have hjl := hJ j hj
    have xl := inv_lt h (ex F j)
    have a1 := at_mul dt (evl_deg (Y := Y) (hY := hY) (b := b) J) xl
    have a2 := at_mul dr (loc_deg (h := h) J) xl
    rw [loc_at xl, lev_zero h hjl J hj, RS.mul_zero h (at_lt _ _ _)] at a2
    have d1 : Deg (t * evl Y hY b J) (nt + J.length) := (dt.mul (evl_deg J)).mono (by omega)
    have d2 : Deg (t * evl Y hY b J) (nr + (J.length + 1)) := by rw [hG]; exact (dr.mul (loc_deg J)).mono (by omega)
    rw [at_same d1 d2, hG, a2] at a1
    rcases Nat.eq_zero_or_pos (at_ t nt (inv F (ex F j))) with h1 | h1
    · exact h1
    · exact absurd a1.symm (mul_ne_zero h (at_lt _ _ _) (at_lt _ _ _) (by omega) (evl_ne hY0 hjl (hJb j hj) nd hJ hj))
  obtain ⟨q, dq, hq⟩ := factor_all J nd hJ nt t (dt.mono (by omega)) (fun j hj => by rw [at_ext dt (by omega)]; exact hroot j hj)
  have hR : r = q * evl Y hY b J := by rw [hE, hq, smul_assoc, smul_comm (loc J), hl]
  have dU : Deg (loc J * T) (J.length + M) := fun i hi => by
    have e : xp M * (loc J * T) = evl Y hY b J + loc J * S := by
      rw [smul_left_comm, ← hl, smul_comm Sh, ← smul_add, hsum, sadd_comm (S + xp M * T), ← sadd_assoc, sadd_self, zr_sadd]
    have e2 : (xp M * (loc J * T)).c (i + M) = (loc J * T).c i := by rw [xp_mul, if_pos (by omega), Nat.add_sub_cancel]
    rw [← e2, e]
    exact Deg.add ((evl_deg J).mono (by omega)) (((loc_deg J).mul dS).mono (by omega)) (i + M) (Nat.le_refl _)
  have hW : q * (loc J * T * tL + sL * loc J) = on := by
    rw [← e3, hD, hq, smul_add, smul_assoc, smul_assoc, smul_left_comm q sL, smul_assoc]
  have dW : Deg (loc J * T * tL + sL * loc J) (max (J.length + M + nl) (nm + (J.length + 1))) := Deg.add ((dU.mul dtL).mono (by omega)) ((dsL.mul (loc_deg J)).mono (by omega))
  have dq1 := const_of dq dW hW
  have hq1 : q = mo 0 (q.c 0) (q.lt 0) := Ser.same fun n => by
    show q.c n = if n = 0 then q.c 0 else 0
    split
    · rename_i e; rw [e]
    · exact dq1 n (by omega)
  refine ⟨q.c 0, q.lt 0, unit_of hW, fun i => ?_, fun i => ?_⟩
  · rw [hq, hq1, mo_mul, if_pos (Nat.zero_le _)]; rfl
  · rw [hR, hq1, mo_mul, if_pos (Nat.zero_le _)]; rfl
end Go.Qz.RS
namespace Go.Qz.RS
open Go.Qz
set_option linter.unusedVariables false
variable {F : Fld} {h : Six F}

/-- A list as a series. -/
def sr (l : List Nat) : Ser F h := ⟨fun n => if co l n < F.size then co l n else 0, fun n => by
  have := h.bounds
  show (if _ then _ else _) < _
  split <;> omega⟩
theorem sr_c {l : List Nat} (hl : El F l) (n : Nat) : (sr l : Ser F h).c n = co l n := by
  show (if co l n < F.size then co l n else 0) = _
  rw [if_pos (co_lt hl n)]
theorem sr_deg {l : List Nat} (hl : El F l) : Deg (sr l : Ser F h) l.length := fun i hi => by rw [sr_c hl, co_past hi]
theorem el_one (h : Six F) : El F [1] := gen_el h 0
theorem el_zero (h : Six F) : El F [0] := fun j => by
  have := h.bounds
  rcases j with _ | j
  · show 0 < F.size; omega
  · show 0 < F.size; omega
theorem sr_one : (sr [1] : Ser F h) = on := Ser.same fun n => by
  rw [sr_c (el_one h), on_c, co_cons]
  rcases n with _ | n
  · rfl
  · rw [if_neg (by simp), co_past (by simp), if_neg (by omega)]
theorem sr_zero : (sr [0] : Ser F h) = zr := Ser.same fun n => by
  rw [sr_c (el_zero h)]
  exact co_zeros 1 n
theorem sr_mon (M : Nat) : (sr (monL M 1) : Ser F h) = xp M := Ser.same fun n => by
  rw [sr_c (monL_el h M (by have := h.bounds; omega)), co_monL]; rfl
theorem sr_plus {a b : List Nat} (ha : El F a) (hb : El F b) : (sr (plus a b) : Ser F h) = sr a + sr b := Ser.same fun n => by
  rw [sr_c (plus_el h ha hb), co_plus, add_c, sr_c ha, sr_c hb]
theorem sr_prod {a b : List Nat} (ha : El F a) (hb : El F b) (han : a ≠ []) (hbn : b ≠ []) : (sr (prod F a b) : Ser F h) = sr a * sr b := Ser.same fun n => by
  rw [sr_c (prod_el h ha hb), co_prod h ha hb han hbn, mul_c]
  exact xs_congr fun i _ => by
    show mul F (co a i) (co b (n - i)) = mul F ((sr a : Ser F h).c i) ((sr b : Ser F h).c (n - i))
    rw [sr_c ha, sr_c hb]

/-- The quotient of a division is no longer than it must be. -/
theorem Dv.quot (h : Six F) {p d q r : List Nat} (v : Dv F p d q r) (hd : tidy d = d) (hdn : d ≠ []) (hde : El F d) (hd0 : d ≠ [0]) (hle : d.length ≤ p.length) (hr : r.length < d.length ∨ r = [0]) : q.length + d.length ≤ p.length + 1 := by
  have hql := List.length_pos_iff.2 v.qn
  have hdl := List.length_pos_iff.2 hdn
  by_cases hq0 : q = [0]
  · rw [hq0]; show 1 + d.length ≤ _; omega
  · have e1 := co_top v.qt v.qn hq0
    have e2 := co_top hd hdn hd0
    have e3 := v.eq (q.length - 1 + (d.length - 1))
    have er : co r (q.length - 1 + (d.length - 1)) = 0 := by
      rcases hr with h1 | h1
      · exact co_past (by omega)
      · rw [h1]; exact co_zeros 1 _
    rw [er, Nat.xor_zero] at e3
    have e4 : pm F (co q) (co d) (q.length - 1 + (d.length - 1)) = mul F (co q (q.length - 1)) (co d (d.length - 1)) := by
      unfold pm
      rw [xs_one (k := q.length - 1) (by omega) (fun i hi hne => by
        show mul F (co q i) (co d (q.length - 1 + (d.length - 1) - i)) = 0
        by_cases h1 : i < q.length - 1
        · rw [co_past (l := d) (by omega), mul_zero h (co_lt v.qe i)]
        · rw [co_past (l := q) (by omega), zero_mul h])]
      show mul F (co q (q.length - 1)) (co d (q.length - 1 + (d.length - 1) - (q.length - 1))) = _
      rw [show q.length - 1 + (d.length - 1) - (q.length - 1) = d.length - 1 by omega]
    have e5 := mul_ne_zero h (co_lt v.qe _) (co_lt hde _) e1 e2
    rcases Nat.lt_or_ge (q.length - 1 + (d.length - 1)) p.length with h1 | h1
    · omega
    · rw [co_past (l := p) h1] at e3
      rw [e4] at e3
      exact absurd e3 e5

/-- What Euclid's algorithm keeps. -/
structure EuInv (S : Ser F h) (M : Nat) (rl rr tl tt : List Nat) : Prop where
  eL : El F rl
  eR : El F rr
  eT : El F tl
  eU : El F tt
  tL : tidy rl = rl
  tR : tidy rr = rr
  tT : tidy tl = tl
  tU : tidy tt = tt
  nL : rl ≠ []
  nR : rr ≠ []
  nT : tl ≠ []
  nU : tt ≠ []
  ll : rl.length ≤ M + 1
  lt : rr.length < rl.length
  b1 : tt.length + rl.length ≤ M + 2
  b2 : tl.length + rl.length ≤ M + 2
  b3 : M + 2 ≤ 2 * rl.length
  hx : ∃ (s sL : Ser F h) (n : Nat), Deg s n ∧ Deg sL n ∧ sr rr = s * xp M + sr tt * S ∧ sr rl = sL * xp M + sr tl * S ∧ s * sr tl + sL * sr tt = on
theorem monL_len (M : Nat) : (monL M 1).length = M + 1 := by simp [monL]
theorem EuInv.start {S : Ser F h} {M : Nat} (hM : 1 ≤ M) {l : List Nat} (el : El F l) (tl : tidy l = l) (nl : l ≠ []) (hl : l.length ≤ M) (hS : ∀ n, co l n = S.c n) : EuInv S M (monL M 1) l [0] [1] := by
  have e : (sr l : Ser F h) = S := Ser.same fun n => by rw [sr_c el, hS]
  refine ⟨monL_el h M (by have := h.bounds; omega), el, el_zero h, el_one h, monL_tidy M 1, tl, rfl, rfl, monL_ne M 1, nl, by simp, by simp, by rw [monL_len]; omega, by rw [monL_len]; omega, by rw [monL_len]; show 1 + _ ≤ _; omega, by rw [monL_len]; show 1 + _ ≤ _; omega, by rw [monL_len]; omega, zr, on, 1, fun _ _ => rfl, Deg.on, ?_, ?_, ?_⟩
  · rw [zr_mul, zr_sadd, sr_one, on_mul, e]
  · rw [sr_mon, on_mul, sr_zero, zr_mul, sadd_zr]
  · rw [zr_mul, zr_sadd, sr_one, on_mul]
theorem EuInv.next {S : Ser F h} {M : Nat} {rl rr tl tt q r : List Nat} (I : EuInv S M rl rr tl tt) (hr2 : 2 * (rr.length - 1) ≥ M) (hM : 2 ≤ M) (v : Dv F rl rr q r) (hr : r.length < rr.length ∨ r = [0]) : EuInv S M rr r tt (plus (prod F q tt) tl) := by
  have hrr0 : rr ≠ [0] := by intro e; rw [e] at hr2; simp at hr2; omega
  have hq := v.quot h I.tR I.nR I.eR hrr0 (by have := I.lt; omega) hr
  have hp := prod_length F q tt
  have hs := plus_length (prod F q tt) tl
  have hql := List.length_pos_iff.2 v.qn
  have htl := List.length_pos_iff.2 I.nU
  have hlr := I.lt
  have hb1 := I.b1
  have hb2 := I.b2
  have hrrl := List.length_pos_iff.2 I.nR
  obtain ⟨s, sL, ns, d1, d2, i1, i2, i3⟩ := I.hx
  have e1 : (sr rl : Ser F h) = sr q * sr rr + sr r := by
    have := Dv.law h I.tL I.nL I.nR I.eR v
    rw [← this, sr_plus (prod_el h v.qe I.eR) v.re, sr_prod v.qe I.eR v.qn I.nR]
  have e2 : (sr (plus (prod F q tt) tl) : Ser F h) = sr q * sr tt + sr tl := by
    rw [sr_plus (prod_el h v.qe I.eU) I.eT, sr_prod v.qe I.eU v.qn I.nU]
  have e3 : (sr r : Ser F h) = sr q * sr rr + sr rl := by rw [e1, ← sadd_assoc, sadd_self, zr_sadd]
  refine ⟨I.eR, v.re, I.eU, plus_el h (prod_el h v.qe I.eU) I.eT, I.tR, v.rt, I.tU, plus_tidy _ _, I.nR, v.rn, I.nU, plus_ne (.inr I.nT), by have := I.ll; omega, ?_, by omega, by omega, by omega, sr q * s + sL, s, q.length + ns, Deg.add (((sr_deg v.qe).mul d1).mono (by omega)) (d2.mono (by omega)), d1.mono (by omega), ?_, i1, ?_⟩
  · rcases hr with h1 | h1
    · exact h1
    · rw [h1]; show 1 < rr.length; omega
  · rw [e3, e2, i1, i2, smul_add, sadd_mul, sadd_mul, smul_assoc, smul_assoc, sadd_assoc, sadd_assoc]
    congr 1
    rw [← sadd_assoc, ← sadd_assoc, sadd_comm (sr q * (sr tt * S))]
  · rw [e2, sadd_mul, smul_add, smul_assoc, smul_left_comm (sr q), ← i3]
    rw [sadd_comm (s * (sr q * sr tt)), ← sadd_assoc]
    rw [sadd_assoc (sL * sr tt), sadd_self, sadd_zr, sadd_comm]
/-- What is left at the end. -/
theorem EuInv.final {Y : Nat → Nat} {hY : ∀ j, Y j < F.size} {b : Nat} (hY0 : ∀ j, Y j ≠ 0) {J : List Nat} (nd : J.Nodup) (hJ : ∀ j ∈ J, j < F.size - 1) (hJb : ∀ j ∈ J, ex F (j * b) ≠ 0) {M : Nat} (hν : 2 * J.length ≤ M)
    {S : Ser F h} (hS : ∀ i, i < M → S.c i = (syn Y hY b J : Ser F h).c i) (dS : Deg S M) {rl rr tl tt : List Nat} (I : EuInv S M rl rr tl tt) (hend : 2 * (rr.length - 1) < M) :
    ∃ k, k < F.size ∧ k ≠ 0 ∧ (∀ i, co tt i = mul F ((loc J : Ser F h).c i) k) ∧ (∀ i, co rr i = mul F ((evl Y hY b J : Ser F h).c i) k) := by
  obtain ⟨s, sL, ns, d1, d2, i1, i2, i3⟩ := I.hx
  have hrl := List.length_pos_iff.2 I.nR
  have b1 := I.b1
  have b3 := I.b3
  obtain ⟨k, k1, k2, k3, k4⟩ := euclid_end hY0 nd hJ hJb hν S (sr tt) (sr rr) s (sr tl) sL hS dS i1 i3 (sr_deg I.eR) (sr_deg I.eU) (sr_deg I.eT) d2 (by omega) (by omega)
  exact ⟨k, k1, k2, fun i => by rw [← k3, sr_c I.eU], fun i => by rw [← k4, sr_c I.eR]⟩
end Go.Qz.RS
namespace Go.Qz.RS
open Go.Qz
set_option linter.unusedVariables false
variable {F : Fld} {h : Six F}

/-- What errors add at a place, and to a value. -/
def errc (Y : Nat → Nat) (J : List Nat) (i : Nat) : Nat := if i ∈ J then Y i else 0
def errv (F : Fld) (Y : Nat → Nat) (x : Nat) : List Nat → Nat
  | [] => 0
  | j :: J => mul F (Y j) (pw F x j) ^^^ errv F Y x J
theorem errc_lt (h : Six F) {Y : Nat → Nat} (hY : ∀ j, Y j < F.size) (J : List Nat) (i : Nat) : errc Y J i < F.size := by
  unfold errc
  split
  · exact hY i
  · have := h.bounds; omega
theorem errc_cons {Y : Nat → Nat} {j : Nat} {J : List Nat} (hj : j ∉ J) (i : Nat) : errc Y (j :: J) i = mon j (Y j) i ^^^ errc Y J i := by
  unfold errc mon
  by_cases e : i = j
  · subst e
    rw [if_pos (by simp), if_pos rfl, if_neg hj, Nat.xor_zero]
  · rw [if_neg e, Nat.zero_xor]
    by_cases h1 : i ∈ J
    · rw [if_pos (by simp [h1]), if_pos h1]
    · rw [if_neg (by simp [h1, e]), if_neg h1]
theorem ve_mon (h : Six F) (j : Nat) {y : Nat} (hy : y < F.size) (x n : Nat) (hj : j < n) : ve F (mon j y) x n = mul F y (pw F x j) := by
  unfold ve
  rw [xs_one hj (fun i hi hne => by
    show mul F (mon j y i) _ = 0
    unfold mon; rw [if_neg hne, zero_mul h])]
  show mul F (mon j y j) _ = _
  unfold mon; rw [if_pos rfl]
theorem ve_err (h : Six F) {Y : Nat → Nat} (hY : ∀ j, Y j < F.size) (x n : Nat) : ∀ J : List Nat, J.Nodup → (∀ j ∈ J, j < n) → ve F (errc Y J) x n = errv F Y x J
  | [], _, _ => ve_zero h (fun i _ => by unfold errc; rw [if_neg (by simp)])
  | j :: J, nd, hJ => by
    obtain ⟨nj, nd'⟩ := List.nodup_cons.1 nd
    rw [ve_congr (b := fun i => mon j (Y j) i ^^^ errc Y J i) (fun i _ => errc_cons nj i), ve_xor h (mon_lt h j (hY j)) (errc_lt h hY J), ve_mon h j (hY j) x n (hJ j (by simp)), ve_err h hY x n J nd' (fun k hk => hJ k (by simp [hk]))]
    rfl
/-- A received word: the code with errors at some powers. -/
structure Rcv (F : Fld) (Y : Nat → Nat) (L R J : List Nat) : Prop where
  len : R.length = L.length
  co : ∀ i, co R i = RS.co L i ^^^ errc Y J i
theorem ev_rcv (h : Six F) {Y : Nat → Nat} (hY : ∀ j, Y j < F.size) {L R J : List Nat} (hL : El F L) (r : Rcv F Y L R J) (nd : J.Nodup) (hJ : ∀ j ∈ J, j < L.length) (x : Nat) : ev F R x = ev F L x ^^^ errv F Y x J := by
  unfold ev
  rw [r.len, ve_congr (b := fun i => RS.co L i ^^^ errc Y J i) (fun i _ => r.co i), ve_xor h (co_lt hL) (errc_lt h hY J), ve_err h hY x L.length J nd hJ]
theorem syn_c {Y : Nat → Nat} {hY : ∀ j, Y j < F.size} (b i : Nat) : ∀ J : List Nat, (syn Y hY b J : Ser F h).c i = errv F Y (ex F (i + b)) J
  | [] => rfl
  | j :: J => by
    show mul F (Y j) (ex F (j * (i + b))) ^^^ (syn Y hY b J : Ser F h).c i = mul F (Y j) (pw F (ex F (i + b)) j) ^^^ errv F Y (ex F (i + b)) J
    rw [syn_c b i J, pw_ex h, Nat.mul_comm]
theorem no_err {Y : Nat → Nat} {hY : ∀ j, Y j < F.size} {b : Nat} (hY0 : ∀ j, Y j ≠ 0) {J : List Nat} (nd : J.Nodup) (hJ : ∀ j ∈ J, j < F.size - 1) (hJb : ∀ j ∈ J, ex F (j * b) ≠ 0) {M : Nat} (hν : J.length ≤ M) (hz : ∀ i, i < M → (syn Y hY b J : Ser F h).c i = 0) : J = [] := by
  rcases J with _ | ⟨j, J⟩
  · rfl
  · exfalso
    have e : (evl Y hY b (j :: J) : Ser F h) = zr := Ser.same fun n => by
      by_cases hn : n < (j :: J).length
      · rw [← syn_loc, mul_c]
        exact xs_zero fun i hi => by
          show mul F ((syn Y hY b (j :: J) : Ser F h).c i) _ = 0
          rw [hz i (by omega), zero_mul h]
      · exact evl_deg (j :: J) n (by omega)
    have := evl_ne (h := h) (Y := Y) (hY := hY) (b := b) hY0 (hJ j (by simp)) (hJb j (by simp)) nd hJ (by simp)
    rw [e] at this
    exact this (ve_zero h (fun _ _ => rfl))
theorem ev_ser {l : List Nat} {p : Ser F h} {n : Nat} (hc : ∀ i, co l i = p.c i) (d : Deg p n) (x : Nat) : ev F l x = at_ p n x := by
  rw [← ev_of_le h (Nat.le_max_left l.length n), ← at_ext d (Nat.le_max_right l.length n)]
  exact ve_congr fun i _ => hc i

/-- The same places in another order. -/
theorem syn_perm {Y : Nat → Nat} {hY : ∀ j, Y j < F.size} {b : Nat} {J K : List Nat} (p : J.Perm K) : (syn Y hY b J : Ser F h) = syn Y hY b K := by
  induction p with
  | nil => rfl
  | cons x _ ih => show _ + _ = _ + _; rw [ih]
  | swap x y l => show _ + (_ + _) = _ + (_ + _); rw [← sadd_assoc, ← sadd_assoc, sadd_comm (geo y _ _ _)]
  | trans _ _ i1 i2 => rw [i1, i2]
theorem loc_perm {J K : List Nat} (p : J.Perm K) : (loc J : Ser F h) = loc K := by
  induction p with
  | nil => rfl
  | cons x _ ih => show _ * _ = _ * _; rw [ih]
  | swap x y l => show _ * (_ * _) = _ * (_ * _); rw [smul_left_comm]
  | trans _ _ i1 i2 => rw [i1, i2]
theorem evl_perm {Y : Nat → Nat} {hY : ∀ j, Y j < F.size} {b : Nat} {J K : List Nat} (p : J.Perm K) : (evl Y hY b J : Ser F h) = evl Y hY b K := by
  rw [← syn_loc, ← syn_loc, syn_perm p, loc_perm p]

/-- An element at which the locator is 0 is the inverse of one of its powers. -/
theorem lev_root (h : Six F) {i : Nat} (hi : i < F.size) : ∀ J : List Nat, lev F i J = 0 → ∃ j ∈ J, mul F (ex F j) i = 1
  | [], e => absurd e (by show (1 : Nat) ≠ 0; omega)
  | j :: J, e => by
    by_cases h0 : 1 ^^^ mul F (ex F j) i = 0
    · refine ⟨j, by simp, ?_⟩
      have : 1 ^^^ (1 ^^^ mul F (ex F j) i) = 1 ^^^ 0 := by rw [h0]
      rwa [← Nat.xor_assoc, Nat.xor_self, Nat.zero_xor, Nat.xor_zero] at this
    · have h1 : lev F i J = 0 := by
        rcases Nat.eq_zero_or_pos (lev F i J) with h2 | h2
        · exact h2
        · exact absurd e (mul_ne_zero h (fac_lt h j i) (lev_lt h i J) h0 (by omega))
      obtain ⟨k, hk, e2⟩ := lev_root h hi J h1
      exact ⟨k, by simp [hk], e2⟩
theorem inv_uniq (h : Six F) {a x : Nat} (ha : a < F.size) (hx : x < F.size) (ha0 : a ≠ 0) (e : mul F a x = 1) : inv F a = x := by
  have e2 : mul F (mul F (inv F a) a) x = inv F a := by rw [mul_assoc h (inv_lt h a) ha hx, e, mul_one h (inv_lt h a)]
  rw [mul_comm h (inv_lt h a) ha, mul_inv h ha ha0, one_mul h hx] at e2
  exact e2.symm
theorem inv_pos (h : Six F) {a : Nat} (ha : a < F.size) (ha0 : a ≠ 0) : inv F a ≠ 0 := by
  intro e
  have := mul_inv h ha ha0
  rw [e, mul_zero h ha] at this
  cases this
theorem inv_inv (h : Six F) {a : Nat} (ha : a < F.size) (ha0 : a ≠ 0) : inv F (inv F a) = a := inv_uniq h (inv_lt h a) ha (inv_pos h ha ha0) (by rw [mul_comm h (inv_lt h a) ha, mul_inv h ha ha0])
/-- The places found below an element. -/
structure Found (F : Fld) (J K : List Nat) (i : Nat) : Prop where
  nd : K.Nodup
  mem : ∀ j, j ∈ K ↔ j ∈ J ∧ inv F (ex F j) < i
theorem Found.start (h : Six F) {J : List Nat} (hJ : ∀ j ∈ J, j < F.size - 1) : Found F J [] 1 := ⟨by simp, fun j => ⟨fun hk => by simp at hk, fun ⟨h1, h2⟩ => by
  have := inv_pos h (exl h j) (ex_ne h (hJ j h1)); omega⟩⟩
theorem Found.skip (h : Six F) {J K : List Nat} (hJ : ∀ j ∈ J, j < F.size - 1) {i : Nat} (hi : i < F.size) (hl : lev F i J ≠ 0) (f : Found F J K i) : Found F J K (i + 1) := ⟨f.nd, fun j => by
  rw [f.mem]
  refine ⟨fun ⟨h1, h2⟩ => ⟨h1, by omega⟩, fun ⟨h1, h2⟩ => ⟨h1, ?_⟩⟩
  by_cases e : inv F (ex F j) = i
  · exact absurd (by rw [← e]; exact lev_zero h (hJ j h1) J h1) hl
  · omega⟩
theorem Found.hit (h : Six F) {J K : List Nat} (hJ : ∀ j ∈ J, j < F.size - 1) {i : Nat} (hi : i < F.size) (hi0 : i ≠ 0) (hl : lev F i J = 0) (f : Found F J K i) : ∃ j, j ∈ J ∧ ex F j = inv F i ∧ Found F J (K ++ [j]) (i + 1) := by
  obtain ⟨j, hj, e⟩ := lev_root h hi J hl
  have hj0 := ex_ne h (hJ j hj)
  have ei : inv F (ex F j) = i := inv_uniq h (exl h j) hi hj0 e
  have ej : ex F j = inv F i := by rw [← ei, inv_inv h (exl h j) hj0]
  refine ⟨j, hj, ej, ?_, fun k => ?_⟩
  · rw [List.nodup_append]
    refine ⟨f.nd, by simp, fun a ha b hb => ?_⟩
    have hb' : b = j := by simpa using hb
    subst hb'
    intro e2
    subst e2
    have := ((f.mem a).1 ha).2
    omega
  · rw [List.mem_append, f.mem]
    constructor
    · rintro (⟨h1, h2⟩ | h1)
      · exact ⟨h1, by omega⟩
      · have : k = j := by simpa using h1
        subst this
        exact ⟨hj, by omega⟩
    · rintro ⟨h1, h2⟩
      by_cases e2 : inv F (ex F k) = i
      · right
        have e3 : ex F k = inv F i := by rw [← e2, inv_inv h (exl h k) (ex_ne h (hJ k h1))]
        have : k = j := ex_inj h (hJ k h1) (hJ j hj) (e3.trans ej.symm)
        simp [this]
      · left; exact ⟨h1, by omega⟩
theorem Found.le {J K : List Nat} {i : Nat} (f : Found F J K i) : K.length ≤ J.length := f.nd.length_le_of_subset (fun j hj => ((f.mem j).1 hj).1)
theorem Found.all (h : Six F) {J K : List Nat} (nd : J.Nodup) (f : Found F J K F.size) : K.Perm J := (List.perm_ext_iff_of_nodup f.nd nd).2 fun j => by
  rw [f.mem]
  exact ⟨fun hh => hh.1, fun hh => ⟨hh, inv_lt h _⟩⟩
theorem Found.full {J K : List Nat} {i : Nat} (nd : J.Nodup) (f : Found F J K i) (hl : K.length = J.length) : K.Perm J := by
  have hsub : K ⊆ J := fun j hj => ((f.mem j).1 hj).1
  refine (List.perm_ext_iff_of_nodup f.nd nd).2 fun j => ⟨fun hj => hsub hj, fun hj => ?_⟩
  by_cases hk : j ∈ K
  · exact hk
  · exfalso
    have hn : (j :: K).Nodup := List.nodup_cons.2 ⟨hk, f.nd⟩
    have := hn.length_le_of_subset (fun i hi => by
      rcases List.mem_cons.1 hi with h1 | h1
      · rw [h1]; exact hj
      · exact hsub h1 : (j :: K) ⊆ J)
    simp at this; omega

/-- The denominators, step by step. -/
theorem den_step (h : Six F) {d x i k : Nat} {K : List Nat} {t : Nat} (hd : d < F.size) (hne : k ≠ i) (e : mul F d (levx F x i (k :: K)) = t) : mul F (mul F d (1 ^^^ mul F (ex F k) x)) (levx F x i K) = t := by
  rw [mul_assoc h hd (fac_lt h k x) (levx_lt h x i K)]
  unfold levx at e
  rw [if_neg hne] at e
  exact e
theorem magn (h : Six F) {y i b l : Nat} (hy : y < F.size) (hi : i < F.size - 1) (hl : l < F.size) (hl0 : l ≠ 0) (hb : b < 2) :
    (b = 0 → mul F (mul F (mul F y (ex F (i * b))) l) (inv F l) = y) ∧ (b ≠ 0 → mul F (mul F (mul F (mul F y (ex F (i * b))) l) (inv F l)) (inv F (ex F i)) = y) := by
  have e1 : mul F (mul F (mul F y (ex F (i * b))) l) (inv F l) = mul F y (ex F (i * b)) := by
    rw [mul_assoc h (mul_lt h hy) hl (inv_lt h l), mul_inv h hl hl0, mul_one h (mul_lt h hy)]
  rw [e1]
  refine ⟨fun hb0 => ?_, fun hb0 => ?_⟩
  · subst hb0
    exact mul_one h hy
  · have : b = 1 := by omega
    subst this
    rw [Nat.mul_one, mul_assoc h hy (exl h i) (inv_lt h _), inv_ex h hi, mul_one h hy]

theorem co_set (l : List Nat) (p v i : Nat) (hp : p < l.length) : co (l.set p v) i = if i = l.length - 1 - p then v else co l i := by
  unfold co
  rw [List.length_set]
  by_cases hi : i < l.length
  · rw [if_pos hi, if_pos hi, nth_set hp]
    by_cases e : i = l.length - 1 - p
    · rw [if_pos e, if_pos (by omega)]
    · rw [if_neg e, if_neg (by omega)]
  · rw [if_neg hi, if_neg hi, if_neg (by omega)]
theorem list_of_co {a b : List Nat} (hl : a.length = b.length) (hc : ∀ i, co a i = co b i) : a = b := by
  apply List.ext_getElem hl
  intro i h1 h2
  have := hc (a.length - 1 - i)
  unfold co at this
  rw [if_pos (by omega), if_pos (by omega), show a.length - 1 - (a.length - 1 - i) = i by omega, show b.length - 1 - (a.length - 1 - i) = i by omega, nth_eq h1, nth_eq h2] at this
  exact this
/-- One error is taken away. -/
theorem Rcv.next {Y : Nat → Nat} {L R K : List Nat} {j : Nat} (r : Rcv F Y L R (j :: K)) (nj : j ∉ K) (hj : j < L.length) : Rcv F Y L (R.set (L.length - 1 - j) (nth R (L.length - 1 - j) ^^^ Y j)) K := by
  have hl := r.len
  refine ⟨by rw [List.length_set]; exact hl, fun i => ?_⟩
  rw [co_set _ _ _ _ (by omega), hl]
  by_cases e : i = L.length - 1 - (L.length - 1 - j)
  · rw [if_pos e]
    have ei : i = j := by omega
    subst ei
    have e2 := r.co i
    have e3 : RS.co R i = nth R (L.length - 1 - i) := by rw [← hl]; unfold RS.co; rw [if_pos (by omega)]
    rw [← e3, e2]
    have e4 : errc Y (i :: K) i = Y i := by unfold errc; rw [if_pos (by simp)]
    have e5 : errc Y K i = 0 := by unfold errc; rw [if_neg nj]
    rw [e4, e5, Nat.xor_assoc, Nat.xor_self]
  · rw [if_neg e, r.co i]
    congr 1
    unfold errc
    have : i ≠ j := by omega
    by_cases h1 : i ∈ K
    · rw [if_pos (by simp [h1]), if_pos h1]
    · rw [if_neg (by simp [h1, this]), if_neg h1]
theorem Rcv.done {Y : Nat → Nat} {L R : List Nat} (r : Rcv F Y L R []) : R = L := list_of_co r.len fun i => by
  rw [r.co i]
  unfold errc
  rw [if_neg (by simp), Nat.xor_zero]
theorem Rcv.perm {Y : Nat → Nat} {L R J K : List Nat} (r : Rcv F Y L R J) (p : J.Perm K) : Rcv F Y L R K := ⟨r.len, fun i => by
  rw [r.co i]
  unfold errc
  simp only [p.mem_iff]⟩
/-- The value of a list, coefficient by coefficient from the highest. -/
theorem ev_snoc (h : Six F) {l : List Nat} {c a : Nat} (hl : El F l) (hc : c < F.size) (ha : a < F.size) : ev F (l ++ [c]) a = mul F a (ev F l a) ^^^ c := by
  unfold ev
  rw [List.length_append, List.length_singleton]
  unfold ve
  rw [xs_front]
  have e0 : mul F (co (l ++ [c]) 0) (pw F a 0) = c := by
    rw [co_append, if_pos (by simp)]
    show mul F c 1 = c
    exact mul_one h hc
  rw [e0, Nat.xor_comm]
  congr 1
  rw [mul_xs_right h ha]
  refine xs_congr fun i hi => ?_
  show mul F (co (l ++ [c]) (i + 1)) (mul F (pw F a i) a) = mul F a (mul F (co l i) (pw F a i))
  have e1 : co (l ++ [c]) (i + 1) = co l i := by
    rw [co_append, if_neg (by simp)]; rfl
  rw [e1, mul_comm h ha (mul_lt h (co_lt hl i)), mul_assoc h (co_lt hl i) (pw_lt h i) ha]
end Go.Qz.RS
namespace Go.Qz.RS
open Go.Qz
set_option linter.unusedVariables false

theorem co_shift (l : List Nat) (k n : Nat) : co (l ++ List.replicate k 0) n = if k ≤ n then co l (n - k) else 0 := by
  rw [co_append, List.length_replicate]
  by_cases h : n < k
  · rw [if_pos h, if_neg (by omega), co_zeros]
  · rw [if_neg h, if_pos (by omega)]
theorem shifted_prod {F : Fld} (h : Six F) {b : List Nat} (hb : El F b) (hbn : b ≠ []) {c : Nat} (hc : c < F.size) (k : Nat) : tidy (prod F b [c] ++ List.replicate k 0) = shfL F b k c := by
  have hce : El F [c] := fun j => by
    have := h.bounds
    rw [nth_cons]; split
    · exact hc
    · rw [nth_past (by simp)]; omega
  refine co_ext (tidy_tidy _) (shfL_tidy _ _ _ _) (tidy_ne _ (by simp [prod_ne hbn (show ([c] : List Nat) ≠ [] by simp)])) (shfL_ne hbn k c) fun n => ?_
  rw [co_tidy, co_shift, co_shfL h hb]
  unfold shf
  split
  · rw [co_prod h hb hce hbn (by simp)]
    have e : (co [c]) = mon 0 c := funext fun i => by
      rw [co_cons]; unfold mon
      by_cases hi : i = 0
      · simp [hi]
      · simp [hi]; exact co_past (by simp)
    rw [e]
    have hm : ∀ i, mon 0 c i < F.size := mon_lt h 0 hc
    show xs (fun i => mul F (co b i) (mon 0 c (n - k - i))) (n - k + 1) = _
    rw [xs_one (k := n - k) (by omega) (fun i hi hne => by
      unfold mon; rw [if_neg (by omega)]; exact mul_zero h (co_lt hb _))]
    unfold mon
    rw [if_pos (by omega)]
  · rfl
theorem shifted_data {F : Fld} (h : Six F) {d : List Nat} (hd : El F d) (hdn : d ≠ []) (ec : Nat) : tidy (d ++ List.replicate ec 0) = shfL F (tidy d) ec 1 := by
  refine co_ext (tidy_tidy _) (shfL_tidy _ _ _ _) (tidy_ne _ (by simp [hdn])) (shfL_ne (tidy_ne _ hdn) ec 1) fun n => ?_
  rw [co_tidy, co_shift, co_shfL h hd.tidy]
  unfold shf
  split
  · rw [co_tidy, mul_one h (co_lt hd _)]
  · rfl
theorem inv_one {F : Fld} (h : Six F) : inv F 1 = 1 := inv_uniq h (by have := h.bounds; omega) (by have := h.bounds; omega) (by omega) (mul_one h (by have := h.bounds; omega))
theorem gen_head {F : Fld} (h : Six F) (d : Nat) : nth (gen F d) 0 = 1 := by
  obtain ⟨h1, h2⟩ := gen_top h d
  unfold co at h2
  rw [if_pos (by omega), h1, show d + 1 - 1 - d = 0 by omega] at h2
  exact h2
theorem scale_gen {F : Fld} (h : Six F) (d : Nat) {r : List Nat} (hr : El F r) : scale F (gen F d) r = nth r 0 := by
  unfold scale
  rw [gen_head h, inv_one h, mul_one h (hr 0)]
/-- The rest behind the data. -/
theorem rest_coded {F : Fld} (h : Six F) {data q r : List Nat} {ec : Nat} (hd : El F data) (hdn : data ≠ []) (v : Dv F (tidy (data ++ List.replicate ec 0)) (gen F ec) q r) (hrl : r.length ≤ ec) :
    ∀ i, i < ec → ev F (coded data r ec) (ex F (i + F.base)) = 0 := fun i hi =>
  coded_root h hd hdn v.qe v.re v.qn hrl (by rw [← shifted_data h hd hdn]; exact v.law h (tidy_tidy _) (tidy_ne _ (by simp [hdn])) (gen_ne F ec) (gen_el h ec)) i hi
theorem coded_length {data r : List Nat} {ec : Nat} (hr : r.length ≤ ec) : (coded data r ec).length = data.length + ec := by
  unfold coded
  simp; omega
theorem coded_el {F : Fld} (h : Six F) {data r : List Nat} {ec : Nat} (hd : El F data) (hr : El F r) : El F (coded data r ec) := fun j => by
  have := h.bounds
  unfold coded
  rw [nth_append]
  split
  · rw [nth_append]
    split
    · exact hd _
    · rw [nth_replicate]; split <;> omega
  · exact hr _
end Go.Qz.RS
