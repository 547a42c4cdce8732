/-
  What the decoder of Aztec messages calls, walked: readCode, the tables, getCharacter, getTable, HasPrefix. No condition beyond the bounds that each theorem states.
-/
import Derived.Test.YtiielblnmfeapaaGreatDoorAZM
import Derived.Deep.QuietTactic
import Derived.BigQuiet
namespace Go.Proofs.YtiielblnmfeapaaGreatDoor
open Go.RowKit Go.Qz
set_option linter.unusedVariables false

def strOf : Value → ByteArray
  | .string s => s
  | _ => ⟨#[]⟩
def isStr : Value → Bool
  | .string _ => true
  | _ => false
theorem rd_lits (w : World) (t : TypeId) (n : Nat) (cs : Array Value) (hn : cs.size = n) (h : cs.toList.all isStr = true) : Rd (w.alloc (.cells cs t)) (some ⟨w.heap.size, 0, none⟩) n (fun j => .string (strOf (cs.getD j undef))) := fun h0 => by
  refine ⟨w.heap.size, 0, rfl, by simp, fun j hj => ?_⟩
  have hj : j < cs.size := by omega
  rw [World.cell?_alloc_at _ _ _ _ rfl, Nat.zero_add, Array.getElem?_eq_getElem hj]
  have h1 : isStr cs[j] = true := List.all_eq_true.1 h _ (by simp)
  have h2 : cs.getD j undef = cs[j] := by simp [Array.getD, hj]
  show some cs[j] = some (.string (strOf (cs.getD j undef)))
  rw [h2]
  revert h1
  cases cs[j] <;> simp [isStr, strOf]

/-- The package's number of a mode. -/
def tn (m : Nat) : Nat := if m = 3 then 4 else if m = 4 then 3 else m
def letter (m : Nat) : Nat := if m = 0 then 85 else if m = 1 then 76 else if m = 2 then 77 else if m = 3 then 80 else if m = 4 then 68 else 66
def ctrl (m l : Nat) : ByteArray := ⟨#[67, 84, 82, 76, 95, UInt8.ofNat (letter m), UInt8.ofNat l]⟩
/-- The string of a mode's table. -/
def dts (k j : Nat) : ByteArray :=
  if sOf k j ≠ [] then tb k j
  else match latTo k j with
    | some m => ctrl m 76
    | none => match shTo k j with
      | some m => ctrl m 83
      | none => ⟨#[70, 76, 71, 40, 110, 41]⟩
theorem dts_ch {k j : Nat} (h : sOf k j ≠ []) : dts k j = tb k j := by unfold dts; rw [if_pos h]
theorem latTo_bd {k c m : Nat} (h : latTo k c = some m) : k < 5 ∧ c < 32 ∧ m < 6 := by
  unfold latTo at h
  repeat' split at h
  all_goals first | (cases h; omega) | (cases h)
theorem shTo_bd {k c m : Nat} (h : shTo k c = some m) : k < 5 ∧ c < 32 ∧ m < 6 := by
  unfold shTo at h
  repeat' split at h
  all_goals first | (cases h; omega) | (cases h)

theorem lat_dts {k c m : Nat} (h : latTo k c = some m) : dts k c = ctrl m 76 ∧ c < tbLen k ∧ m < 5 := by
  obtain ⟨h1, h2, _⟩ := latTo_bd h
  have key : ∀ k, k < 5 → ∀ c, c < 32 → ((latTo k c).all fun m => decide (dts k c = ctrl m 76) && (decide (c < tbLen k) && decide (m < 5))) = true := by decide +kernel
  have h3 := key k h1 c h2
  rw [h] at h3
  simpa using h3
theorem sh_dts {k c m : Nat} (h : shTo k c = some m) : dts k c = ctrl m 83 ∧ c < tbLen k := by
  obtain ⟨h1, h2, _⟩ := shTo_bd h
  have key : ∀ k, k < 5 → ∀ c, c < 32 → ((shTo k c).all fun m => decide (dts k c = ctrl m 83) && decide (c < tbLen k)) = true := by decide +kernel
  have h3 := key k h1 c h2
  rw [h] at h3
  simpa using h3

def CharPost (k n : Nat) (w : World) (e : Ending) (w' : World) : Prop := ∃ (b : Nat), e = .returned (.slice (some ⟨b, 0, none⟩) n n) ∧ Hid (Rd w' (some ⟨b, 0, none⟩) n (fun j => .string (dts k j))) ∧ Below w.heap.size w w'
theorem CharPost.mk {k n : Nat} {w : World} {cs : Array Value} {t : TypeId} (hn : cs.size = n) (h : cs.toList.all isStr = true) (ht : ∀ j : Fin n, strOf (cs.getD j.val undef) = dts k j.val) :
    CharPost k n w (.returned (.slice (some ⟨w.heap.size, 0, none⟩) n n)) (w.alloc (.cells cs t)) :=
  ⟨w.heap.size, rfl, Lib.hid ((rd_lits w t n cs hn h).congr fun j hj => by rw [ht ⟨j, hj⟩]), below_lit _ _⟩
def SignPost (k q : Nat) (w : World) (e : Ending) (w' : World) : Prop := e = .returned (.tuple #[.string (dts k q), .nilIface]) ∧ Below w.heap.size w w'

set_option maxRecDepth 100000 in
set_option maxHeartbeats 1600000 in
theorem table0 (w : World) : Calls Tryz.prog 98 #[] w (CharPost 0 32 w) := by
  go_enter Tryz.func98, Tryz.ntmps98
  go_wp2_with fail
  go_ret
  exact CharPost.mk rfl rfl (by decide +kernel)

set_option maxRecDepth 100000 in
set_option maxHeartbeats 1600000 in
theorem getChar0 (q : Nat) (hq : q < 32) (w : World) : Calls Tryz.prog 68 #[.int .i64 0, .int .i64 q] w (SignPost 0 q w) := by
  have hq0 : (0 : Int) ≤ (q : Int) := by omega
  have hq1 : (q : Int) < 32 := by omega
  have hq2 : decide ((32 : Int) ≤ (q : Int)) = false := by simp; omega
  go_enter Tryz.func68, Tryz.ntmps68
  go_wp2_with fail
  refine (table0 _).mono ?_
  rintro e w1 ⟨b, rfl, HR, hb⟩
  obtain ⟨b0, off, e0, hb0, hc⟩ := HR.out (by omega)
  injection e0 with e0
  injection e0 with e0 e1 _
  subst e0 e1
  have hcq := hc q hq
  rw [Nat.zero_add] at hcq
  dsimp only at hcq
  have HB := Lib.hid hb
  obtain ⟨s, hs⟩ : ∃ s, s = dts 0 q := ⟨_, rfl⟩
  rw [← hs] at hcq
  have HS := Lib.hid hs
  clear hb hc HR hs
  go_wp2_with fail
  go_ret2
  rw [HS.out]
  exact ⟨rfl, HB.out⟩

set_option maxRecDepth 100000 in
set_option maxHeartbeats 1600000 in
theorem table1 (w : World) : Calls Tryz.prog 99 #[] w (CharPost 1 32 w) := by
  go_enter Tryz.func99, Tryz.ntmps99
  go_wp2_with fail
  go_ret
  exact CharPost.mk rfl rfl (by decide +kernel)

set_option maxRecDepth 100000 in
set_option maxHeartbeats 1600000 in
theorem getChar1 (q : Nat) (hq : q < 32) (w : World) : Calls Tryz.prog 68 #[.int .i64 1, .int .i64 q] w (SignPost 1 q w) := by
  have hq0 : (0 : Int) ≤ (q : Int) := by omega
  have hq1 : (q : Int) < 32 := by omega
  have hq2 : decide ((32 : Int) ≤ (q : Int)) = false := by simp; omega
  go_enter Tryz.func68, Tryz.ntmps68
  go_wp2_with fail
  refine (table1 _).mono ?_
  rintro e w1 ⟨b, rfl, HR, hb⟩
  obtain ⟨b0, off, e0, hb0, hc⟩ := HR.out (by omega)
  injection e0 with e0
  injection e0 with e0 e1 _
  subst e0 e1
  have hcq := hc q hq
  rw [Nat.zero_add] at hcq
  dsimp only at hcq
  have HB := Lib.hid hb
  obtain ⟨s, hs⟩ : ∃ s, s = dts 1 q := ⟨_, rfl⟩
  rw [← hs] at hcq
  have HS := Lib.hid hs
  clear hb hc HR hs
  go_wp2_with fail
  go_ret2
  rw [HS.out]
  exact ⟨rfl, HB.out⟩

set_option maxRecDepth 100000 in
set_option maxHeartbeats 1600000 in
theorem table2 (w : World) : Calls Tryz.prog 100 #[] w (CharPost 2 32 w) := by
  go_enter Tryz.func100, Tryz.ntmps100
  go_wp2_with fail
  go_ret
  exact CharPost.mk rfl rfl (by decide +kernel)

set_option maxRecDepth 100000 in
set_option maxHeartbeats 1600000 in
theorem getChar2 (q : Nat) (hq : q < 32) (w : World) : Calls Tryz.prog 68 #[.int .i64 2, .int .i64 q] w (SignPost 2 q w) := by
  have hq0 : (0 : Int) ≤ (q : Int) := by omega
  have hq1 : (q : Int) < 32 := by omega
  have hq2 : decide ((32 : Int) ≤ (q : Int)) = false := by simp; omega
  go_enter Tryz.func68, Tryz.ntmps68
  go_wp2_with fail
  refine (table2 _).mono ?_
  rintro e w1 ⟨b, rfl, HR, hb⟩
  obtain ⟨b0, off, e0, hb0, hc⟩ := HR.out (by omega)
  injection e0 with e0
  injection e0 with e0 e1 _
  subst e0 e1
  have hcq := hc q hq
  rw [Nat.zero_add] at hcq
  dsimp only at hcq
  have HB := Lib.hid hb
  obtain ⟨s, hs⟩ : ∃ s, s = dts 2 q := ⟨_, rfl⟩
  rw [← hs] at hcq
  have HS := Lib.hid hs
  clear hb hc HR hs
  go_wp2_with fail
  go_ret2
  rw [HS.out]
  exact ⟨rfl, HB.out⟩

set_option maxRecDepth 100000 in
set_option maxHeartbeats 1600000 in
theorem table3 (w : World) : Calls Tryz.prog 101 #[] w (CharPost 3 32 w) := by
  go_enter Tryz.func101, Tryz.ntmps101
  go_wp2_with fail
  go_ret
  exact CharPost.mk rfl rfl (by decide +kernel)

set_option maxRecDepth 100000 in
set_option maxHeartbeats 1600000 in
theorem getChar3 (q : Nat) (hq : q < 32) (w : World) : Calls Tryz.prog 68 #[.int .i64 4, .int .i64 q] w (SignPost 3 q w) := by
  have hq0 : (0 : Int) ≤ (q : Int) := by omega
  have hq1 : (q : Int) < 32 := by omega
  have hq2 : decide ((32 : Int) ≤ (q : Int)) = false := by simp; omega
  go_enter Tryz.func68, Tryz.ntmps68
  go_wp2_with fail
  refine (table3 _).mono ?_
  rintro e w1 ⟨b, rfl, HR, hb⟩
  obtain ⟨b0, off, e0, hb0, hc⟩ := HR.out (by omega)
  injection e0 with e0
  injection e0 with e0 e1 _
  subst e0 e1
  have hcq := hc q hq
  rw [Nat.zero_add] at hcq
  dsimp only at hcq
  have HB := Lib.hid hb
  obtain ⟨s, hs⟩ : ∃ s, s = dts 3 q := ⟨_, rfl⟩
  rw [← hs] at hcq
  have HS := Lib.hid hs
  clear hb hc HR hs
  go_wp2_with fail
  go_ret2
  rw [HS.out]
  exact ⟨rfl, HB.out⟩

set_option maxRecDepth 100000 in
set_option maxHeartbeats 1600000 in
theorem table4 (w : World) : Calls Tryz.prog 102 #[] w (CharPost 4 16 w) := by
  go_enter Tryz.func102, Tryz.ntmps102
  go_wp2_with fail
  go_ret
  exact CharPost.mk rfl rfl (by decide +kernel)

set_option maxRecDepth 100000 in
set_option maxHeartbeats 1600000 in
theorem getChar4 (q : Nat) (hq : q < 16) (w : World) : Calls Tryz.prog 68 #[.int .i64 3, .int .i64 q] w (SignPost 4 q w) := by
  have hq0 : (0 : Int) ≤ (q : Int) := by omega
  have hq1 : (q : Int) < 16 := by omega
  have hq2 : decide ((16 : Int) ≤ (q : Int)) = false := by simp; omega
  go_enter Tryz.func68, Tryz.ntmps68
  go_wp2_with fail
  refine (table4 _).mono ?_
  rintro e w1 ⟨b, rfl, HR, hb⟩
  obtain ⟨b0, off, e0, hb0, hc⟩ := HR.out (by omega)
  injection e0 with e0
  injection e0 with e0 e1 _
  subst e0 e1
  have hcq := hc q hq
  rw [Nat.zero_add] at hcq
  dsimp only at hcq
  have HB := Lib.hid hb
  obtain ⟨s, hs⟩ : ∃ s, s = dts 4 q := ⟨_, rfl⟩
  rw [← hs] at hcq
  have HS := Lib.hid hs
  clear hb hc HR hs
  go_wp2_with fail
  go_ret2
  rw [HS.out]
  exact ⟨rfl, HB.out⟩

theorem getChar (k q : Nat) (hk : k < 5) (hq : q < tbLen k) (w : World) : Calls Tryz.prog 68 #[.int .i64 (tn k : Nat), .int .i64 q] w (SignPost k q w) := by
  have h : k = 0 ∨ k = 1 ∨ k = 2 ∨ k = 3 ∨ k = 4 := by omega
  rcases h with rfl | rfl | rfl | rfl | rfl
  · exact getChar0 q hq w
  · exact getChar1 q hq w
  · exact getChar2 q hq w
  · exact getChar3 q hq w
  · exact getChar4 q hq w

set_option maxRecDepth 100000 in
theorem getTable_ (m : Nat) (hm : m < 6) (w : World) : Calls Tryz.prog 71 #[.int .u8 (letter m : Nat)] w fun e w' => e = .returned (.int .i64 (tn m : Nat)) ∧ w = w' := by
  have h : m = 0 ∨ m = 1 ∨ m = 2 ∨ m = 3 ∨ m = 4 ∨ m = 5 := by omega
  rcases h with rfl | rfl | rfl | rfl | rfl | rfl
  all_goals
    simp only [letter, tn]
    go_enter Tryz.func71, Tryz.ntmps71
    go_wp2_with fail
    go_ret
    exact ⟨rfl, rfl⟩

set_option maxRecDepth 100000 in
theorem hasPrefix_lite (s p : ByteArray) (hs : s.size < 1000000) (hp : p.size < 1000000) (h : s.size < p.size) (w : World) :
    Calls Tryz.prog 103 #[.string s, .string p] w fun e w' => e = .returned (.bool false) ∧ w = w' := by
  have h1 : (s.size : Int) < (p.size : Int) := by omega
  go_enter Tryz.func103, Tryz.ntmps103
  go_wp2_with fail
  go_ret
  exact ⟨rfl, rfl⟩
set_option maxRecDepth 100000 in
theorem hasPrefix_not (s p : ByteArray) (hs : s.size < 1000000) (hp : p.size < 1000000) (h : s.size < p.size) (w : World) :
    Calls Tryz.prog 70 #[.string s, .string p] w fun e w' => e = .returned (.bool false) ∧ w = w' := by
  go_enter Tryz.func70, Tryz.ntmps70
  go_wp2_with fail
  refine (hasPrefix_lite s p hs hp h w).mono ?_
  rintro e w1 ⟨rfl, rfl⟩
  go_wp2_with fail
  go_ret
  exact ⟨rfl, rfl⟩
def ctrlP : ByteArray := ⟨#[67, 84, 82, 76, 95]⟩
set_option maxRecDepth 100000 in
theorem hasPrefix_lite2 (m l : Nat) (hm : m < 6) (w : World) :
    Calls Tryz.prog 103 #[.string (ctrl m l), .string ⟨#[67, 84, 82, 76, 95]⟩] w fun e w' => e = .returned (.bool true) ∧ w = w' := by
  obtain ⟨s, hs⟩ : ∃ s, s = ctrl m l := ⟨_, rfl⟩
  have h1 : s.size = 7 := by rw [hs]; rfl
  have h2 : ((s.extract 0 5).toList == [67, 84, 82, 76, 95]) = true := by rw [hs, ByteArray.toList_eq]; rfl
  rw [← hs]
  clear hs
  go_enter Tryz.func103, Tryz.ntmps103
  go_wp2_with fail
  go_ret
  exact ⟨rfl, rfl⟩
set_option maxRecDepth 100000 in
theorem hasPrefix_ctrl (m l : Nat) (hm : m < 6) (w : World) :
    Calls Tryz.prog 70 #[.string (ctrl m l), .string ⟨#[67, 84, 82, 76, 95]⟩] w fun e w' => e = .returned (.bool true) ∧ w = w' := by
  have H := hasPrefix_lite2 m l hm w
  generalize ctrl m l = s at *
  have H := Lib.hid H
  go_enter Tryz.func70, Tryz.ntmps70
  go_wp2_with fail
  refine H.out.mono ?_
  rintro e w1 ⟨rfl, rfl⟩
  go_wp2_with fail
  go_ret
  exact ⟨rfl, rfl⟩

set_option maxRecDepth 100000 in
set_option maxHeartbeats 1600000 in
theorem readCode (L : List Bool) (A : Option Addr) (n c i t : Nat) (hn : n = L.length) (ht : i + t ≤ n) (htl : t ≤ 12) (hnl : n < 1000000) (w : World) (h : Rd w A n (fun j => .bool (nthB L j))) :
    Calls Tryz.prog 63 #[.slice A n c, .int .i64 i, .int .i64 t] w fun e w' => e = .returned (.int .i64 (vl L i t : Nat)) ∧ w = w' := by
  have HN := Lib.hid hn
  have H := Lib.hid h
  clear hn h
  go_enter Tryz.func63, Tryz.ntmps63
  go_wp2_with fail
  go_loop [7, 8] (fun r j => ∃ k x : Nat, k ≤ t ∧ r = .int .i64 x ∧ j = .int .i64 ((i + k : Nat) : Int) ∧ Hid (x = vl L i k)) (fun _ j => i + t - (intOf j).toNat)
  case atStart => exact ⟨0, 0, Nat.zero_le _, rfl, rfl, Lib.hid rfl⟩
  case round =>
    obtain ⟨k, x, hk, rfl, rfl, HX⟩ := hrel
    obtain ⟨j, hj⟩ : ∃ j, j = i + k := ⟨_, rfl⟩
    rw [← hj]
    by_cases hlt : k < t
    · have hj1 : (j : Int) < (i : Int) + (t : Int) := by omega
      have hj2 : (j : Int) < (n : Int) := by omega
      have hj0 : (0 : Int) ≤ (j : Int) := by omega
      obtain ⟨b, off, e, hb, hc⟩ := H.out (by omega)
      subst e
      have hcell := hc j (by omega)
      dsimp only at hcell
      clear hc
      have hxl : x < 4096 := by
        have h1 := vl_lt L i k
        have h2 : 2 ^ k ≤ 2 ^ 12 := Nat.pow_le_pow_right (by omega) (by omega)
        have h3 : (2 : Nat) ^ 12 = 4096 := rfl
        rw [← HX.out] at h1
        omega
      have hw2 : IntKind.i64.wrap ((x : Int) * 2) = (x : Int) * 2 := by rw [IntKind.wrap_i64]; omega
      have hor := i64_or (x * 2) 1 (by omega) (by omega)
      rw [show x * 2 ||| 1 = x * 2 + 1 by rw [Nat.mul_comm]; exact (Nat.two_pow_add_eq_or_of_lt (i := 1) (b := 1) (by omega) x).symm] at hor
      have hor2 : bits .or .i64 ((x : Int) * 2) 1 = ((x * 2 + 1 : Nat) : Int) := by rw [← hor]; congr 1
      have HV : Hid (vl L i (k + 1) = 2 * x + (nthB L j).toNat) := Lib.hid (by rw [HX.out, hj]; rfl)
      obtain ⟨bt, hbt⟩ : ∃ bt, bt = nthB L j := ⟨_, rfl⟩
      rw [← hbt] at hcell HV
      have HJ := Lib.hid hj
      clear hbt hor hj
      cases bt with
      | true =>
        go_wp2_with fail
        go_round
        case rel => exact ⟨k + 1, x * 2 + 1, by omega, rfl, by have := HJ.out; rw [show i + (k + 1) = j + 1 by omega]; go_num, Lib.hid (by rw [HV.out]; simp; omega)⟩
        case measure => simp [intOf]; omega
      | false =>
        go_wp2_with fail
        go_round
        case rel => exact ⟨k + 1, x * 2, by omega, by go_num, by have := HJ.out; rw [show i + (k + 1) = j + 1 by omega]; go_num, Lib.hid (by rw [HV.out]; simp; omega)⟩
        case measure => simp [intOf]; omega
    · obtain rfl : k = t := by omega
      have hj1 : ((j : Int) < (i : Int) + (k : Int)) = False := by simp; omega
      have HJ := Lib.hid hj
      clear hj
      go_wp2_with fail
      go_ret
      rw [HX.out]
      exact ⟨rfl, rfl⟩
end Go.Proofs.YtiielblnmfeapaaGreatDoor
