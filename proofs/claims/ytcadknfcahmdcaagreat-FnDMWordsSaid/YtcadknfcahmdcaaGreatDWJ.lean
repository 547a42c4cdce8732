/-
  Data Matrix: the counts of the look ahead, and what it may answer (plain). No program in sight.
-/
import Derived.Test.YtcadknfcahmdcaaGreatDWF
import Derived.Test.YtcadknfcahmdcaaGreatDWH
namespace Go.Qz.DF
open Go.Qz
open Go.Qz.DV hiding val run
set_option linter.unusedVariables false

def isD (c : Nat) : Bool := decide (48 ≤ c) && decide (c ≤ 57)
def isS (c : Nat) : Bool := decide (c = 13) || decide (c = 42) || decide (c = 62)
def isC (c : Nat) : Bool := decide (c = 32) || (decide (48 ≤ c) && decide (c ≤ 57)) || (decide (65 ≤ c) && decide (c ≤ 90))
def isT (c : Nat) : Bool := decide (c = 32) || (decide (48 ≤ c) && decide (c ≤ 57)) || (decide (97 ≤ c) && decide (c ≤ 122))
/-- The constants' words. -/
def kHalf : Nat := 4602678819172646912
def kOne : Nat := 4607182418800017408
def k23 : Nat := 4604180019048437077
def k43 : Nat := 4608683618675807573
def k103 : Nat := 4614688418178968235
def k34 : Nat := 4604930618986332160
def k134 : Nat := 4614500768194494464
theorem kHalf_sv : sv kHalf = 576460752303423488 := by decide +kernel
theorem kOne_sv : sv kOne = 1152921504606846976 := by decide +kernel
theorem k23_sv : 3 * sv k23 ≤ 2305843009213693952 + 4096 ∧ 2305843009213693952 ≤ 3 * sv k23 + 4096 := by decide +kernel
theorem k43_sv : 3 * sv k43 ≤ 4611686018427387904 + 4096 ∧ 4611686018427387904 ≤ 3 * sv k43 + 4096 := by decide +kernel
theorem k103_sv : 3 * sv k103 ≤ 11529215046068469760 + 4096 ∧ 11529215046068469760 ≤ 3 * sv k103 + 4096 := by decide +kernel
theorem k34_sv : sv k34 = 864691128455135232 := by decide +kernel
theorem k134_sv : sv k134 = 3746994889972252672 := by decide +kernel
/-- Thirds that are counted for n bytes: two for its own, k for others. -/
def th (g : Nat → Bool) (k : Nat) (f : Nat → Nat) : Nat → Nat
  | 0 => 3
  | n + 1 => th g k f n + (if g (f n) = true then 2 else k)
/-- The sum of two words. -/
def fadd (x y : Nat) : Nat := (Ieee.double.add x y).getD 0
def stA (c A : Nat) : Nat := if isD c = true then fadd A kHalf else fadd (ceilW A) kOne
def stC (c x : Nat) : Nat := if isC c = true then fadd x k23 else fadd x k43
def stT (c x : Nat) : Nat := if isT c = true then fadd x k23 else fadd x k43
def stX (c x : Nat) : Nat := if isX c = true then fadd x k23 else fadd x k103
def stE (c x : Nat) : Nat := if isE c = true then fadd x k34 else fadd x k134
def stB (x : Nat) : Nat := fadd x kOne
/-- A count that may be taken on: its word, its bound. -/
def Ok (n z : Nat) : Prop := OkW z ∧ val z ≤ (3 + 4 * n) * 1152921504606846976
/-- The counts behind n bytes. -/
structure Cnt (mode : Nat) (f : Nat → Nat) (n A C T X E B : Nat) : Prop where
  a : Ok n A
  c : Ok n C
  t : Ok n T
  x : Ok n X
  e : Ok n E
  b : Ok n B
  vA : val A ≤ (n + (if mode = 0 then 0 else 1)) * 1152921504606846976 ∧ val A % 576460752303423488 = 0
  vB : val B = (4 * n + (if mode = 0 then 5 else 9)) * 288230376151711744
  vE : val E = eC (if mode = 0 then 4 else if mode = 4 then 0 else 8) f n * 288230376151711744
  lC : mode = 0 → th isC 4 f n * 1152921504606846976 ≤ 3 * val C + n * 4194304
  lT : mode = 0 → th isT 4 f n * 1152921504606846976 ≤ 3 * val T + n * 4194304
  lX : mode = 0 → th isX 10 f n * 1152921504606846976 ≤ 3 * val X + n * 4194304
  xc : mode ≠ 3 → (∀ i, i < n → isS (f i) = false) → X = C ∨ val C + 1152921504606846976 ≤ val X + n * 2097152
/-- A sum is what it should be, nearly; exactly where nothing is rounded. -/
def AddOk (n x y : Nat) : Prop := Ieee.double.add x y = some (fadd x y) ∧ Ok (n + 1) (fadd x y) ∧ val (fadd x y) ≤ val x + sv y + 524288 ∧ val x + sv y ≤ val (fadd x y) + 524288 ∧ ((val x + sv y) % 1048576 = 0 → val (fadd x y) = val x + sv y)
theorem p72 : (2 : Nat) ^ 72 = 4722366482869645213696 := by decide
theorem p60 : (2 : Nat) ^ 60 = 1152921504606846976 := by decide
theorem p20 : (2 : Nat) ^ 20 = 1048576 := by decide
theorem p19 : (2 : Nat) ^ 19 = 524288 := by decide
theorem fadd_ok {n x y : Nat} (hn : n ≤ 1000) (hx : Ok n x) (hy : y ∈ consts) (hs : sv y ≤ 4611686018426863616) : AddOk n x y := by
  obtain ⟨h1, h2⟩ := hx
  have h72 : val x + sv y < 2 ^ 72 := by rw [p72]; generalize val x = vx at *; generalize sv y = vy at *; omega
  obtain ⟨z, z1, z2, z3, z4, z5⟩ := add_ok h1 hy h72
  rw [p19] at z3 z4
  rw [p20] at z5
  have e : fadd x y = z := by unfold fadd; rw [z1]; rfl
  unfold AddOk
  rw [e]
  refine ⟨z1, ⟨.inr z2, ?_⟩, z3, z4, z5⟩
  clear h72 z1 z2 z4 z5 e h1 hy
  generalize val x = vx at *
  generalize sv y = vy at *
  generalize val z = vz at *
  omega
theorem ceilW_le {n x : Nat} (hn : n ≤ 1000) (hx : Ok n x) : OkW (ceilW x) ∧ val (ceilW x) = ceilC x * 1152921504606846976 ∧ Ok n (ceilW x) := by
  obtain ⟨h1, h2⟩ := hx
  have hb : val x ≤ 4095 * 2 ^ 60 := by
    rw [p60, show 4095 * 1152921504606846976 = 4721213561365038366720 by decide]
    clear h1
    generalize val x = vx at *
    omega
  obtain ⟨o1, o2⟩ := ceilW_ok h1 hb
  rw [p60] at o2
  have e := o2
  refine ⟨o1, e, o1, ?_⟩
  obtain ⟨s1, s2⟩ := ceilC_spec h1
  rw [p60] at s2
  rw [e]
  clear o1 o2 e hb h1
  generalize val x = vx at *
  generalize ceilC x = cx at *
  omega
section
variable {mode n A C T X E B c : Nat} {f : Nat → Nat}
theorem mem_half : kHalf ∈ consts := by decide
theorem mem_one : kOne ∈ consts := by decide
theorem mem_23 : k23 ∈ consts := by decide
theorem mem_43 : k43 ∈ consts := by decide
theorem mem_103 : k103 ∈ consts := by decide
theorem mem_34 : k34 ∈ consts := by decide
theorem mem_134 : k134 ∈ consts := by decide
theorem addHalf (hn : n ≤ 1000) (hx : Ok n A) : AddOk n A kHalf := fadd_ok hn hx mem_half (by rw [kHalf_sv]; decide)
theorem addOne (hn : n ≤ 1000) (hx : Ok n A) : AddOk n A kOne := fadd_ok hn hx mem_one (by rw [kOne_sv]; decide)
theorem add23 (hn : n ≤ 1000) (hx : Ok n A) : AddOk n A k23 := fadd_ok hn hx mem_23 (by have := k23_sv; omega)
theorem add43 (hn : n ≤ 1000) (hx : Ok n A) : AddOk n A k43 := fadd_ok hn hx mem_43 (by have := k43_sv; omega)
theorem add103 (hn : n ≤ 1000) (hx : Ok n A) : AddOk n A k103 := fadd_ok hn hx mem_103 (by have := k103_sv; omega)
theorem add34 (hn : n ≤ 1000) (hx : Ok n A) : AddOk n A k34 := fadd_ok hn hx mem_34 (by rw [k34_sv]; decide)
theorem add134 (hn : n ≤ 1000) (hx : Ok n A) : AddOk n A k134 := fadd_ok hn hx mem_134 (by rw [k134_sv]; decide)
theorem okA (hn : n ≤ 1000) (h : Ok n A) : Ok (n + 1) (stA c A) := by
  unfold stA; split
  · exact (addHalf hn h).2.1
  · exact (addOne hn (ceilW_le hn h).2.2).2.1
theorem vA_step {s : Nat} (hn : n ≤ 1000) (h : Ok n A) (h1 : val A ≤ (n + s) * 1152921504606846976) (h2 : val A % 576460752303423488 = 0) : val (stA c A) ≤ (n + 1 + s) * 1152921504606846976 ∧ val (stA c A) % 576460752303423488 = 0 := by
  unfold stA; split
  · obtain ⟨_, _, _, _, e⟩ := addHalf hn h
    rw [kHalf_sv] at e
    rw [e (by omega)]
    omega
  · obtain ⟨c1, c2, c3⟩ := ceilW_le hn h
    obtain ⟨_, _, _, _, e⟩ := addOne hn c3
    have s2 := (ceilC_spec h.1).2
    rw [p60] at s2
    rw [kOne_sv, c2] at e
    rw [e (by omega)]
    omega
theorem th_step (g : Nat → Bool) (k : Nat) : th g k f (n + 1) = th g k f n + (if g (f n) = true then 2 else k) := rfl
theorem low_step {g : Nat → Bool} {k a b x : Nat} (hn : n ≤ 1000) (hx : Ok n x) (ha : a ∈ consts) (hb : b ∈ consts) (sa : sv a ≤ 4611686018426863616) (sb : sv b ≤ 4611686018426863616)
    (ha2 : 2305843009213693952 ≤ 3 * sv a + 4096) (hb2 : k * 1152921504606846976 ≤ 3 * sv b + 4096) (h : th g k f n * 1152921504606846976 ≤ 3 * val x + n * 4194304) :
    th g k f (n + 1) * 1152921504606846976 ≤ 3 * val (if g (f n) = true then fadd x a else fadd x b) + (n + 1) * 4194304 := by
  rw [th_step]
  by_cases hg : g (f n) = true
  · rw [if_pos hg, if_pos hg]
    obtain ⟨_, _, _, e, _⟩ := fadd_ok hn hx ha sa
    generalize val (fadd x a) = q1 at *
    generalize val x = q2 at *
    generalize sv a = q3 at *
    generalize sv b = q4 at *
    rw [Nat.add_mul, show 2 * 1152921504606846976 = 2305843009213693952 by decide]
    clear hx
    obtain ⟨p, hp⟩ : ∃ p, p = th g k f n * 1152921504606846976 := ⟨_, rfl⟩
    rw [← hp] at h ⊢
    clear hp
    omega
  · rw [if_neg hg, if_neg hg]
    obtain ⟨_, _, _, e, _⟩ := fadd_ok hn hx hb sb
    generalize val (fadd x b) = q1 at *
    generalize val x = q2 at *
    generalize sv a = q3 at *
    generalize sv b = q4 at *
    rw [Nat.add_mul]
    clear hx
    obtain ⟨p, hp⟩ : ∃ p, p = th g k f n * 1152921504606846976 := ⟨_, rfl⟩
    rw [← hp] at h ⊢
    clear hp
    obtain ⟨p', hp'⟩ : ∃ p', p' = k * 1152921504606846976 := ⟨_, rfl⟩
    rw [← hp'] at hb2 ⊢
    clear hp'
    omega
theorem Cnt.step (hm : mode ≠ 5) (hn : n ≤ 1000) (h : Cnt mode f n A C T X E B) : Cnt mode f (n + 1) (stA (f n) A) (stC (f n) C) (stT (f n) T) (stX (f n) X) (stE (f n) E) (stB B) where
  a := okA hn h.a
  c := by unfold stC; split; exact (add23 hn h.c).2.1; exact (add43 hn h.c).2.1
  t := by unfold stT; split; exact (add23 hn h.t).2.1; exact (add43 hn h.t).2.1
  x := by unfold stX; split; exact (add23 hn h.x).2.1; exact (add103 hn h.x).2.1
  e := by unfold stE; split; exact (add34 hn h.e).2.1; exact (add134 hn h.e).2.1
  b := (addOne hn h.b).2.1
  vA := vA_step hn h.a h.vA.1 h.vA.2
  vB := by
    unfold stB
    obtain ⟨_, _, _, _, e⟩ := addOne hn h.b
    have := h.vB
    rw [kOne_sv] at e
    rw [e (by omega)]
    omega
  vE := by
    have hv := h.vE
    generalize (if mode = 0 then 4 else if mode = 4 then 0 else 8) = e0 at hv ⊢
    unfold stE eC
    by_cases hg : isE (f n) = true
    · rw [if_pos hg, if_pos hg]
      obtain ⟨_, _, _, _, e⟩ := add34 hn h.e
      rw [k34_sv] at e
      rw [e (by omega)]
      omega
    · rw [if_neg hg, if_neg hg]
      obtain ⟨_, _, _, _, e⟩ := add134 hn h.e
      rw [k134_sv] at e
      rw [e (by omega)]
      omega
  lC := fun h0 => low_step hn h.c mem_23 mem_43 (by have := k23_sv; omega) (by have := k43_sv; omega) (by have := k23_sv; omega) (by have := k43_sv; omega) (h.lC h0)
  lT := fun h0 => low_step hn h.t mem_23 mem_43 (by have := k23_sv; omega) (by have := k43_sv; omega) (by have := k23_sv; omega) (by have := k43_sv; omega) (h.lT h0)
  lX := fun h0 => low_step hn h.x mem_23 mem_103 (by have := k23_sv; omega) (by have := k103_sv; omega) (by have := k23_sv; omega) (by have := k103_sv; omega) (h.lX h0)
  xc := fun h3 hs => by
    have hx := h.xc h3 fun i hi => hs i (by omega)
    have hS := hs n (by omega)
    have e : isX (f n) = isC (f n) := by
      unfold isS at hS
      unfold isX isC
      simp only [Bool.or_eq_false_iff] at hS
      obtain ⟨⟨s1, s2⟩, s3⟩ := hS
      rw [s1, s2, s3]
      simp
    unfold stX stC
    rw [e]
    have q1 := k43_sv
    have q2 := k103_sv
    by_cases hc : isC (f n) = true
    · rw [if_pos hc, if_pos hc]
      rcases hx with rfl | hx
      · exact .inl rfl
      · right
        obtain ⟨_, _, c1, c2, _⟩ := add23 hn h.c
        obtain ⟨_, _, x1, x2, _⟩ := add23 hn h.x
        omega
    · rw [if_neg hc, if_neg hc]
      right
      obtain ⟨_, _, c1, c2, _⟩ := add43 hn h.c
      obtain ⟨_, _, x1, x2, _⟩ := add103 hn h.x
      rcases hx with rfl | hx <;> omega
/-- The counts at the start. -/
theorem one_ok : OkW kOne ∧ val kOne = 1152921504606846976 := ⟨.inr (const_good mem_one).1, by rw [val_good (const_good mem_one).1, kOne_sv]⟩
def kTwo : Nat := 4611686018427387904
def k125 : Nat := 4608308318706860032
def k225 : Nat := 4612248968380809216
theorem two_ok : OkW kTwo ∧ val kTwo = 2305843009213693952 := ⟨.inr ⟨by decide, by decide⟩, by decide +kernel⟩
theorem k125_ok : OkW k125 ∧ val k125 = 5 * 288230376151711744 := ⟨.inr ⟨by decide, by decide⟩, by decide +kernel⟩
theorem k225_ok : OkW k225 ∧ val k225 = 9 * 288230376151711744 := ⟨.inr ⟨by decide, by decide⟩, by decide +kernel⟩
theorem zero_ok : OkW 0 ∧ val 0 = 0 := ⟨.inl rfl, rfl⟩
theorem Cnt.start0 (f : Nat → Nat) : Cnt 0 f 0 0 kOne kOne kOne kOne k125 := by
  obtain ⟨o1, v1⟩ := one_ok
  obtain ⟨o2, v2⟩ := k125_ok
  obtain ⟨o0, v0⟩ := zero_ok
  generalize kOne = K1 at *
  generalize k125 = K2 at *
  generalize val 0 = V0 at *
  refine ⟨⟨o0, ?_⟩, ⟨o1, by omega⟩, ⟨o1, by omega⟩, ⟨o1, by omega⟩, ⟨o1, by omega⟩, ⟨o2, by omega⟩, ?_, by simp only [if_true]; omega, by simp only [if_true, eC]; omega, fun _ => by simp only [th]; omega, fun _ => by simp only [th]; omega, fun _ => by simp only [th]; omega, fun _ _ => .inl rfl⟩
  · rw [zero_ok.2]; exact Nat.zero_le _
  · rw [zero_ok.2]; decide
theorem Cnt.start1 (f : Nat → Nat) (hm : 1 ≤ mode) (h4 : mode ≤ 4) : Cnt mode f 0 kOne (if mode = 1 then 0 else kTwo) (if mode = 2 then 0 else kTwo) (if mode = 3 then 0 else kTwo) (if mode = 4 then 0 else kTwo) k225 := by
  obtain ⟨o1, v1⟩ := one_ok
  obtain ⟨o2, v2⟩ := two_ok
  obtain ⟨o3, v3⟩ := k225_ok
  obtain ⟨o0, v0⟩ := zero_ok
  have e0 : ¬ mode = 0 := by omega
  obtain ⟨Z, hZ⟩ : ∃ Z, Z = (0 : Nat) := ⟨_, rfl⟩
  have hst : Cnt mode f Z kOne (if mode = 1 then Z else kTwo) (if mode = 2 then Z else kTwo) (if mode = 3 then Z else kTwo) (if mode = 4 then Z else kTwo) k225 := ?_
  · rw [hZ] at hst; exact hst
  have o0' : OkW Z := by rw [hZ]; exact o0
  have v0' : val Z = 0 := by rw [hZ]; exact v0
  have t0 : ∀ g k, th g k f Z = 3 := fun g k => by rw [hZ]; rfl
  have c0 : ∀ e, eC e f Z = e := fun e => by rw [hZ]; rfl
  clear o0 v0
  generalize kOne = K1 at *
  generalize kTwo = K2 at *
  generalize k225 = K3 at *
  have hif : ∀ k, Ok Z (if mode = k then Z else K2) := fun k => by
    split
    · exact ⟨o0', by omega⟩
    · exact ⟨o2, by omega⟩
  refine ⟨⟨o1, by omega⟩, hif 1, hif 2, hif 3, hif 4, ⟨o3, by omega⟩, ⟨by rw [if_neg e0]; omega, by omega⟩, by rw [if_neg e0, v3, hZ], ?_, fun h => absurd h e0, fun h => absurd h e0, fun h => absurd h e0, fun h3 _ => ?_⟩
  · rw [if_neg e0]
    by_cases e : mode = 4
    · rw [if_pos e, if_pos e]; rw [c0]; omega
    · rw [if_neg e, if_neg e]; rw [c0]; omega
  · by_cases e : mode = 1
    · rw [if_pos e, if_neg h3]; right; omega
    · rw [if_neg e, if_neg h3]; exact .inl rfl
end
end Go.Qz.DF
