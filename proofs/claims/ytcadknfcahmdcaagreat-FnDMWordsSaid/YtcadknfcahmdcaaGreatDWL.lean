/-
  getMinimumCount and findMinimums, walked. No condition beyond the bounds that each theorem states.
-/
import Derived.Test.YtcadknfcahmdcaaGreatDWK
import Derived.Test.YtcadknfcahmdcaaGreatDWG
import Derived.Test.YtcadknfcahmdcaaGreatGRD
namespace Go.Proofs.YtcadknfcahmdcaaGreat
open Go.RowKit Go.Qz Go.Qz.DF
set_option linter.unusedVariables false

/-- The sum of the first k. -/
def sm (g : Nat → Nat) : Nat → Nat
  | 0 => 0
  | k + 1 => sm g k + g k
theorem sm_le {g : Nat → Nat} (h : ∀ j, g j ≤ 1) : ∀ k, sm g k ≤ k
  | 0 => Nat.le_refl _
  | k + 1 => by have := sm_le h k; have := h k; unfold sm; omega
set_option maxRecDepth 100000 in
theorem minCount (w : World) (b c : Nat) (g : Nat → Nat) (hg : ∀ j, g j ≤ 1) (hA : Arr w 5 b (rowV (fun j => .int .u8 (g j : Nat)) 6)) :
    Calls Tryz.prog 110 #[.slice (some ⟨b, 0, none⟩) 6 c] w fun e w' => e = .returned (.int .i64 (sm g 6 : Nat)) ∧ w = w' := by
  have HA := Lib.hid hA
  have HG := Lib.hid hg
  clear hA hg
  go_enter Tryz.func110, Tryz.ntmps110
  go_wp2_with fail
  go_loopw [3, 4] (fun s i wr => ∃ k : Nat, k ≤ 6 ∧ s = .int .i64 (sm g k : Nat) ∧ i = .int .i64 k ∧ w = wr) (fun s i _ => 6 - (intOf i).toNat)
  case atStart => exact ⟨0, by omega, rfl, rfl, rfl⟩
  case round =>
    obtain ⟨k, hk, rfl, rfl, hw⟩ := hrel
    subst hw
    by_cases hlt : k < 6
    · have hk0 : (0 : Int) ≤ (k : Int) := by omega
      have hk1 : (k : Int) < 6 := by omega
      have cj := HA.out.cell? k
      rw [rowV_get _ _ _ hlt] at cj
      obtain ⟨s0, hs0⟩ : ∃ s0, s0 = sm g k := ⟨_, rfl⟩
      obtain ⟨g0, hg0⟩ : ∃ g0, g0 = g k := ⟨_, rfl⟩
      have hs1 : s0 ≤ 6 := by have := sm_le HG.out k; omega
      have hg1 : g0 ≤ 1 := by have := HG.out k; omega
      have HS : Hid (s0 + g0 = sm g (k + 1)) := Lib.hid (by rw [hs0, hg0]; rfl)
      rw [← hg0] at cj
      rw [← hs0]
      clear hs0 hg0
      obtain ⟨t0, ht0⟩ : ∃ t0, t0 = s0 + g0 := ⟨_, rfl⟩
      have w1 : IntKind.i64.wrap ((s0 : Int) + (g0 : Int)) = (t0 : Int) := by rw [IntKind.wrap_i64]; omega
      have HS2 : Hid (t0 = sm g (k + 1)) := Lib.hid (by rw [ht0]; exact HS.out)
      clear HS ht0
      go_wp2_with fail
      go_roundw
      case rel => exact ⟨k + 1, by omega, by rw [← HS2.out], by go_num, trivial⟩
      case measure => simp [intOf]; omega
    · obtain rfl : k = 6 := by omega
      go_wp2_with fail
      go_ret
      exact ⟨rfl, rfl⟩
/-- The counts' ceilings. -/
def ci (z : Nat → Nat) (j : Nat) : Nat := ceilC (z j)
/-- Which of the first k are m. -/
def ms (z : Nat → Nat) (k m j : Nat) : Nat := if j < k ∧ ci z j = m then 1 else 0
def MinPost (z : Nat → Nat) (w : World) (ib mb : Nat) (e : Ending) (w' : World) : Prop :=
  ∃ m : Nat, e = .returned (.int .i64 m) ∧ Hid ((∀ j, j < 6 → m ≤ ci z j) ∧ ∃ j, j < 6 ∧ ci z j = m) ∧ Hid (Arr w' 3 ib (rowV (fun j => .int .i64 (ci z j : Nat)) 6)) ∧ Hid (Arr w' 5 mb (rowV (fun j => .int .u8 (ms z 6 m j : Nat)) 6)) ∧ Hid (Mod (fun b => b = ib ∨ b = mb) w w')
theorem conv_ceil {z : Nat} (h : OkW z) (hb : DF.val z ≤ 4095 * 2 ^ 60) (W : World) : (convert 135 3 (.float .f64 (ceilW z))).run Tryz.prog W = .ok (.int .i64 (ceilC z : Nat)) W := by
  refine run_convert_float_int W 135 3 .f64 .i64 (ceilW z) (ceilC z : Nat) (by rw [Tryz.underlying135]; rfl) Tryz.underlying3 ?_
  unfold floatToIntVal
  have e : (FloatKind.f64.decode (ceilW z)).toInt .zero = some ((ceilC z : Nat) : Int) := ceil_toInt h hb
  rw [e]
  dsimp only
  have hc : ceilC z ≤ 4095 := by
    obtain ⟨_, c2⟩ := ceilC_spec h
    rcases Nat.lt_or_ge 4095 (ceilC z) with hlt | hge
    · have : 4096 * 2 ^ 60 ≤ ceilC z * 2 ^ 60 := Nat.mul_le_mul_right _ hlt
      omega
    · exact hge
  have h1 : IntKind.i64.min ≤ ((ceilC z : Nat) : Int) ∧ ((ceilC z : Nat) : Int) ≤ IntKind.i64.max := by
    have e1 : IntKind.i64.min = -9223372036854775808 := by decide
    have e2 : IntKind.i64.max = 9223372036854775807 := by decide
    rw [e1, e2]; omega
  rw [if_pos h1]
theorem ci_le {z : Nat} (h : OkW z) (hb : DF.val z ≤ 4095 * 2 ^ 60) : ceilC z ≤ 4095 := by
  obtain ⟨_, c2⟩ := ceilC_spec h
  rcases Nat.lt_or_ge 4095 (ceilC z) with hlt | hge
  · have : 4096 * 2 ^ 60 ≤ ceilC z * 2 ^ 60 := Nat.mul_le_mul_right _ hlt
    omega
  · exact hge
/-- The state of findMinimums behind k counts. -/
structure MinSt (z : Nat → Nat) (w wr : World) (ib mb k m : Nat) : Prop where
  ia : Arr wr 3 ib (rowV (fun j => .int .i64 ((if j < k then ci z j else 0 : Nat) : Int)) 6)
  ma : Arr wr 5 mb (rowV (fun j => .int .u8 (ms z k m j : Nat)) 6)
  md : Mod (fun b => b = ib ∨ b = mb) w wr
  le : ∀ j, j < k → m ≤ ci z j
  ex : (k = 0 ∧ m = 2147483647) ∨ (0 < k ∧ ∃ j, j < k ∧ ci z j = m)
/-- A new least one. -/
theorem MinSt.new {z : Nat → Nat} {w wr w1 w2 : World} {ib mb k m x : Nat} (h : MinSt z w wr ib mb k m) (hne : ib ≠ mb) (hx : x = ci z k) (hlt : x < m) (hk : k < 6)
    (h1 : w1 = wr.setCell ⟨ib, k, none⟩ (.int .i64 x)) (h2 : Arr w2 5 mb (rowV (fun _ => .int .u8 0) 6)) (hm : Mod (· = mb) w1 w2) : MinSt z w (w2.setCell ⟨mb, k, none⟩ (.int .u8 1)) ib mb (k + 1) x := by
  have i1 := h.ia.set_ k (.int .i64 x)
  rw [rowV_set (g := fun j => .int .i64 ((if j < k + 1 then ci z j else 0 : Nat) : Int)) (fun j hj => by
    by_cases e : j = k
    · subst e; rw [if_pos rfl, if_pos (by omega), hx]
    · rw [if_neg e]
      by_cases e2 : j < k
      · rw [if_pos e2, if_pos (by omega)]
      · rw [if_neg e2, if_neg (by omega)])] at i1
  rw [← h1] at i1
  have i2 := (i1.mod hm hne).mod (Mod.set1 w2 mb k (.int .u8 1)) hne
  have m2 := h2.set_ k (.int .u8 1)
  rw [rowV_set (g := fun j => .int .u8 (ms z (k + 1) x j : Nat)) (fun j hj => by
    unfold ms
    by_cases e : j = k
    · subst e; rw [if_pos rfl, if_pos ⟨by omega, hx.symm⟩]; rfl
    · rw [if_neg e, if_neg (fun hh => by have := h.le j (by omega); omega)]; rfl)] at m2
  refine ⟨i2, m2, ?_, fun j hj => ?_, .inr ⟨by omega, k, by omega, hx.symm⟩⟩
  · have a1 := h.md.setCell (p := ⟨ib, k, none⟩) (.inl (.inl rfl)) (.int .i64 x)
    rw [← h1] at a1
    exact (a1.trans (hm.mono fun _ _ e => .inr e)).trans ((Mod.set1 w2 mb k (.int .u8 1)).mono fun _ _ e => .inr e)
  · by_cases e : j = k
    · subst e; omega
    · have := h.le j (by omega); omega
theorem MinSt.same {z : Nat → Nat} {w wr w1 : World} {ib mb k m : Nat} (h : MinSt z w wr ib mb k m) (hne : ib ≠ mb) (hx : m = ci z k) (hk : k < 6)
    (h1 : w1 = wr.setCell ⟨ib, k, none⟩ (.int .i64 m)) : MinSt z w (w1.setCell ⟨mb, k, none⟩ (.int .u8 1)) ib mb (k + 1) m := by
  have i1 := h.ia.set_ k (.int .i64 m)
  rw [rowV_set (g := fun j => .int .i64 ((if j < k + 1 then ci z j else 0 : Nat) : Int)) (fun j hj => by
    by_cases e : j = k
    · subst e; rw [if_pos rfl, if_pos (by omega), hx]
    · rw [if_neg e]
      by_cases e2 : j < k
      · rw [if_pos e2, if_pos (by omega)]
      · rw [if_neg e2, if_neg (by omega)])] at i1
  rw [← h1] at i1
  have a0 := (Mod.set1 wr ib k (.int .i64 m))
  rw [← h1] at a0
  have i2 := i1.mod (Mod.set1 w1 mb k (.int .u8 1)) hne
  have m2 := (h.ma.mod a0 (fun e => hne e.symm)).set_ k (.int .u8 1)
  rw [rowV_set (g := fun j => .int .u8 (ms z (k + 1) m j : Nat)) (fun j hj => by
    unfold ms
    by_cases e : j = k
    · subst e; rw [if_pos rfl, if_pos ⟨by omega, hx.symm⟩]; rfl
    · rw [if_neg e]
      by_cases e2 : j < k ∧ ci z j = m
      · rw [if_pos e2, if_pos ⟨by omega, e2.2⟩]
      · rw [if_neg e2, if_neg (fun hh => e2 ⟨by omega, hh.2⟩)])] at m2
  refine ⟨i2, m2, ?_, fun j hj => ?_, .inr ⟨by omega, k, by omega, hx.symm⟩⟩
  · exact (h.md.trans (a0.mono fun _ _ e => .inl e)).trans ((Mod.set1 w1 mb k (.int .u8 1)).mono fun _ _ e => .inr e)
  · by_cases e : j = k
    · subst e; omega
    · have := h.le j (by omega); omega
theorem MinSt.more {z : Nat → Nat} {w wr w1 : World} {ib mb k m x : Nat} (h : MinSt z w wr ib mb k m) (hne : ib ≠ mb) (hx : x = ci z k) (hk : k < 6) (hlt : m < x) (hx2 : x ≤ 4095)
    (h1 : w1 = wr.setCell ⟨ib, k, none⟩ (.int .i64 x)) : MinSt z w w1 ib mb (k + 1) m := by
  have i1 := h.ia.set_ k (.int .i64 x)
  rw [rowV_set (g := fun j => .int .i64 ((if j < k + 1 then ci z j else 0 : Nat) : Int)) (fun j hj => by
    by_cases e : j = k
    · subst e; rw [if_pos rfl, if_pos (by omega), hx]
    · rw [if_neg e]
      by_cases e2 : j < k
      · rw [if_pos e2, if_pos (by omega)]
      · rw [if_neg e2, if_neg (by omega)])] at i1
  rw [← h1] at i1
  have a0 := (Mod.set1 wr ib k (.int .i64 x))
  rw [← h1] at a0
  have m2 := h.ma.mod a0 (fun e => hne e.symm)
  rw [rowV_congr (g := fun j => .int .u8 (ms z (k + 1) m j : Nat)) (fun j hj => by
    have e0 : ms z k m j = ms z (k + 1) m j := by
      unfold ms
      by_cases e2 : j < k ∧ ci z j = m
      · rw [if_pos e2, if_pos ⟨by omega, e2.2⟩]
      · rw [if_neg e2, if_neg (fun hh => by
          have : j = k := by
            rcases Nat.lt_or_ge j k with h3 | h3
            · exact absurd ⟨h3, hh.2⟩ e2
            · omega
          subst this; omega)]
    rw [e0])] at m2
  refine ⟨i1, m2, h.md.trans (a0.mono fun _ _ e => .inl e), fun j hj => ?_, ?_⟩
  · by_cases e : j = k
    · subst e; omega
    · exact h.le j (by omega)
  · rcases h.ex with ⟨_, e⟩ | ⟨e, j, hj, he⟩
    · omega
    · exact .inr ⟨by omega, j, by omega, he⟩
theorem ms_le (z : Nat → Nat) (k m j : Nat) : ms z k m j ≤ 1 := by unfold ms; split <;> omega
theorem ms_zero (z : Nat → Nat) (k m : Nat) (h : ∀ j, j < k → m < ci z j) (j : Nat) : ms z k m j = 0 := by
  unfold ms; rw [if_neg]; rintro ⟨h1, h2⟩; have := h j h1; omega
set_option maxRecDepth 100000 in
set_option maxHeartbeats 3200000 in
theorem findMins (w : World) (cb ib mb c1 c2 c3 : Nat) (z : Nat → Nat) (hz : ∀ j, j < 6 → OkW (z j) ∧ DF.val (z j) ≤ 4095 * 2 ^ 60) (h12 : cb ≠ ib) (h13 : cb ≠ mb) (h23 : ib ≠ mb)
    (hC : Arr w 135 cb (rowV (fun j => .float .f64 (z j)) 6)) (hI : Arr w 3 ib (rowV (fun _ => .int .i64 0) 6)) (hM : Arr w 5 mb (rowV (fun _ => .int .u8 0) 6)) :
    Calls Tryz.prog 109 #[.slice (some ⟨cb, 0, none⟩) 6 c1, .slice (some ⟨ib, 0, none⟩) 6 c2, .int .i64 2147483647, .slice (some ⟨mb, 0, none⟩) 6 c3] w (MinPost z w ib mb) := by
  have HC := Lib.hid hC
  have HI := Lib.hid hI
  have HM := Lib.hid hM
  have HZ := Lib.hid hz
  have HN := Lib.hid (And.intro h12 (And.intro h13 h23))
  clear hC hI hM hz h12 h13 h23
  go_enter Tryz.func109, Tryz.ntmps109
  go_wp2_with fail
  go_loopw [15] (fun i wr => ∃ q : Nat, q ≤ 6 ∧ i = .int .i64 q ∧ Hid (Arr wr 5 mb (rowV (fun _ => .int .u8 0) 6)) ∧ Hid (Mod (· = mb) w wr)) (fun i _ => 6 - (intOf i).toNat)
  case atStart => exact ⟨0, by omega, rfl, HM, Lib.hid (Mod.refl _)⟩
  case round =>
    obtain ⟨wo, hwo⟩ : ∃ wo, wo = wr := ⟨_, rfl⟩
    rw [← hwo] at hrel ⊢
    clear hwo
    obtain ⟨q, hq, rfl, HM1, HD1⟩ := hrel
    clear HM
    by_cases hlt : q < 6
    · have hq0 : (0 : Int) ≤ (q : Int) := by omega
      have hq1 : (q : Int) < 6 := by omega
      have cj := HM1.out.cell? q
      rw [rowV_get _ _ _ hlt] at cj
      have fj := HM1.out.free q
      have HM2 : Hid (Arr (wo.setCell ⟨mb, q, none⟩ (.int .u8 0)) 5 mb (rowV (fun _ => .int .u8 0) 6)) := Lib.hid (by
        have := HM1.out.set_ q (.int .u8 0)
        rw [rowV_set (g := fun _ => .int .u8 0) (fun j hj => by by_cases e : j = q <;> simp [e])] at this
        exact this)
      have HD2 : Hid (Mod (· = mb) w (wo.setCell ⟨mb, q, none⟩ (.int .u8 0))) := Lib.hid (HD1.out.trans (Mod.set1 wo mb q _))
      clear HM1 HD1
      go_wp2_with fail
      go_roundw
      case rel => exact ⟨q + 1, by omega, by go_num, HM2, HD2⟩
      case measure => simp [intOf]; omega
    · obtain rfl : q = 6 := by omega
      have HS0 : Hid (MinSt z w wo ib mb 0 2147483647) := Lib.hid ⟨by
          rw [rowV_congr (g := fun _ => .int .i64 0) (fun j hj => by simp)]
          exact HI.out.mod HD1.out HN.out.2.2, by
          rw [rowV_congr (g := fun _ => .int .u8 0) (fun j hj => by rw [ms_zero z 0 2147483647 (fun j hj => by omega)]; rfl)]
          exact HM1.out, HD1.out.mono fun _ _ e => .inr e, fun j hj => by omega, .inl ⟨rfl, rfl⟩⟩
      clear HM1 HD1 HI hq hlt
      go_wp2_with fail
      go_loopw [2, 10] (fun mv i wr => ∃ k m : Nat, k ≤ 6 ∧ mv = .int .i64 m ∧ i = .int .i64 k ∧ Hid (MinSt z w wr ib mb k m)) (fun mv i _ => 6 - (intOf i).toNat)
      case atStart => exact ⟨0, 2147483647, by omega, rfl, rfl, HS0⟩
      case round =>
        obtain ⟨w1, hw1⟩ : ∃ w1, w1 = wr := ⟨_, rfl⟩
        rw [← hw1] at hrel ⊢
        clear hw1
        obtain ⟨k, m, hk, rfl, rfl, HS⟩ := hrel
        clear HS0
        by_cases hlt : k < 6
        · have hk0 : (0 : Int) ≤ (k : Int) := by omega
          have hk1 : (k : Int) < 6 := by omega
          have cC := (HC.out.mod HS.out.md (by have := HN.out; omega)).cell? k
          rw [rowV_get _ _ _ hlt] at cC
          have cI := HS.out.ia.cell? k
          rw [rowV_get _ _ _ hlt] at cI
          have fI := HS.out.ia.free k
          obtain ⟨z0, hz0⟩ : ∃ z0, z0 = z k := ⟨_, rfl⟩
          obtain ⟨x, hx⟩ : ∃ x, x = ci z k := ⟨_, rfl⟩
          have hok := HZ.out k hlt
          have hcv := conv_ceil hok.1 hok.2
          have hxl : x ≤ 4095 := by rw [hx]; exact ci_le hok.1 hok.2
          have hce := fun W => ceil_walk (z k) hok.1 W
          have e0 : ceilC (z k) = x := hx.symm
          rw [e0] at hcv
          rw [← hz0] at hcv cC hce
          have HX := Lib.hid hx
          clear hx hz0 hok e0
          obtain ⟨y, hy⟩ : ∃ y, y = ceilW z0 := ⟨_, rfl⟩
          rw [← hy] at hcv hce
          clear hy
          obtain ⟨w2, hw2⟩ : ∃ w2, w2 = w1.setCell ⟨ib, k, none⟩ (.int .i64 x) := ⟨_, rfl⟩
          have hM1 := Mod.set1 w1 ib k (.int .i64 x)
          rw [← hw2] at hM1
          have hI2 := HS.out.ia.set_ k (.int .i64 x)
          rw [← hw2] at hI2
          have cI2 := hI2.cell? k
          rw [List.getElem?_set_self (by rw [rowV_len]; exact hlt)] at cI2
          have hM2 := HS.out.ma.mod hM1 (by have := HN.out; omega)
          have HM2 := Lib.hid hM2
          have cM2 := hM2.cell? k
          rw [rowV_get _ _ _ hlt] at cM2
          have fM2 := hM2.free k
          have hmk : ms z k m k = 0 := by unfold ms; rw [if_neg (fun h => absurd h.1 (by omega))]
          rw [hmk, show ((0 : Nat) : Int) = 0 from rfl] at cM2
          have HW2 := Lib.hid hw2
          clear hI2 hM2 hM1 hmk
          rcases Nat.lt_trichotomy x m with hxm | hxm | hxm
          · have hxm' : (x : Int) < (m : Int) := by omega
            go_wp2_with (go_at_call 111; refine (hce _).mono ?_; rintro e w' ⟨rfl, rfl⟩)
            rw [← hw2]
            clear hw2
            go_loopw [45] (fun i wr => ∃ q : Nat, q ≤ 6 ∧ i = .int .i64 q ∧ Hid (Arr wr 5 mb (rowV (fun j => .int .u8 ((if j < q then 0 else ms z k m j : Nat) : Int)) 6)) ∧ Hid (Mod (· = mb) w2 wr)) (fun i _ => 6 - (intOf i).toNat)
            case atStart => exact ⟨0, by omega, rfl, Lib.hid (by rw [rowV_congr (g := fun j => .int .u8 (ms z k m j : Nat)) (fun j hj => by rw [if_neg (by omega)])]; exact HM2.out), Lib.hid (Mod.refl _)⟩
            case round =>
              obtain ⟨w3, hw3⟩ : ∃ w3, w3 = wr := ⟨_, rfl⟩
              rw [← hw3] at hrel ⊢
              clear hw3
              obtain ⟨q, hq, rfl, HM3, HD3⟩ := hrel
              clear HM2 cM2 fM2 cI2
              by_cases hlt2 : q < 6
              · have hq0 : (0 : Int) ≤ (q : Int) := by omega
                have hq1 : (q : Int) < 6 := by omega
                have cj := HM3.out.cell? q
                rw [rowV_get _ _ _ hlt2] at cj
                have fj := HM3.out.free q
                have HM4 : Hid (Arr (w3.setCell ⟨mb, q, none⟩ (.int .u8 0)) 5 mb (rowV (fun j => .int .u8 ((if j < q + 1 then 0 else ms z k m j : Nat) : Int)) 6)) := Lib.hid (by
                  have := HM3.out.set_ q (.int .u8 0)
                  rw [rowV_set (g := fun j => .int .u8 ((if j < q + 1 then 0 else ms z k m j : Nat) : Int)) (fun j hj => by
                    by_cases e : j = q
                    · subst e; rw [if_pos rfl, if_pos (by omega)]; rfl
                    · rw [if_neg e]
                      by_cases e2 : j < q
                      · rw [if_pos e2, if_pos (by omega)]
                      · rw [if_neg e2, if_neg (by omega)])] at this
                  exact this)
                have HD4 : Hid (Mod (· = mb) w2 (w3.setCell ⟨mb, q, none⟩ (.int .u8 0))) := Lib.hid (HD3.out.trans (Mod.set1 w3 mb q _))
                clear HM3 HD3
                go_wp2_with fail
                go_roundw
                case rel => exact ⟨q + 1, by omega, by go_num, HM4, HD4⟩
                case measure => simp [intOf]; omega
              · obtain rfl : q = 6 := by omega
                have hz3 : Arr w3 5 mb (rowV (fun _ => .int .u8 0) 6) := by
                  have := HM3.out
                  rw [rowV_congr (g := fun _ => .int .u8 0) (fun j hj => by rw [if_pos hj]; rfl)] at this
                  exact this
                have c3 := hz3.cell? k
                rw [rowV_get _ _ _ hlt] at c3
                have f3 := hz3.free k
                have HS' : Hid (MinSt z w (w3.setCell ⟨mb, k, none⟩ (.int .u8 1)) ib mb (k + 1) x) := Lib.hid (HS.out.new HN.out.2.2 HX.out hxm hlt HW2.out hz3 HD3.out)
                clear hz3 HM3 HD3 hq hlt2
                go_wp2_with fail
                go_roundw
                case rel => (repeat apply Exists.intro); exact ⟨⟨k + 1, x, by omega, rfl, by go_num, HS'⟩, rfl⟩
                case measure => simp [intOf]; omega
          · subst hxm
            have hbe : ((x : Int) == (x : Int)) = true := by simp
            have hbl : ((x : Int) < (x : Int)) = False := by simp
            have HS' : Hid (MinSt z w (w2.setCell ⟨mb, k, none⟩ (.int .u8 1)) ib mb (k + 1) x) := Lib.hid (HS.out.same HN.out.2.2 HX.out hlt HW2.out)
            subst hw2
            go_wp2_with (go_at_call 111; refine (hce _).mono ?_; rintro e w' ⟨rfl, rfl⟩)
            go_roundw
            case rel => (repeat apply Exists.intro); exact ⟨⟨k + 1, x, by omega, rfl, by go_num, HS'⟩, rfl⟩
            case measure => simp [intOf]; omega
          · have hxm' : ((x : Int) < (m : Int)) = False := by simp; omega
            have hxm2 : ((m : Int) == (x : Int)) = false := by simp; omega
            have hxm3 : ¬ (m : Int) = (x : Int) := by omega
            have HS' : Hid (MinSt z w w2 ib mb (k + 1) m) := Lib.hid (HS.out.more HN.out.2.2 HX.out hlt hxm hxl HW2.out)
            subst hw2
            go_wp2_with (go_at_call 111; refine (hce _).mono ?_; rintro e w' ⟨rfl, rfl⟩)
            go_roundw
            case rel => (repeat apply Exists.intro); exact ⟨⟨k + 1, m, by omega, rfl, by go_num, HS'⟩, rfl⟩
            case measure => simp [intOf]; omega
        · obtain rfl : k = 6 := by omega
          have h1 := HS.out
          have HQ : Hid ((∀ j, j < 6 → m ≤ ci z j) ∧ ∃ j, j < 6 ∧ ci z j = m) := Lib.hid ⟨h1.le, by
            rcases h1.ex with ⟨e, _⟩ | ⟨_, e⟩
            · omega
            · exact e⟩
          have HI' : Hid (Arr w1 3 ib (rowV (fun j => .int .i64 (ci z j : Nat)) 6)) := Lib.hid (by
            have := h1.ia
            rw [rowV_congr (g := fun j => .int .i64 (ci z j : Nat)) (fun j hj => by rw [if_pos hj])] at this
            exact this)
          have HM' := Lib.hid h1.ma
          have HD' := Lib.hid h1.md
          clear h1 HS
          go_wp2_with fail
          go_ret
          exact ⟨m, rfl, HQ, HI', HM', HD'⟩
end Go.Proofs.YtcadknfcahmdcaaGreat
