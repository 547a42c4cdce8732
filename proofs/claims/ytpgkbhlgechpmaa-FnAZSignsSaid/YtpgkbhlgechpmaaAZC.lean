/-
  getCharacter, AZSign and the statement FnAZSigns, walked. No condition.
-/
import Derived.Test.YtpgkbhlgechpmaaAZS
namespace Go.Proofs.Ytpgkbhlgechpmaa
open Go.RowKit Go.Qz
set_option linter.unusedVariables false

def strOf : Value → ByteArray
  | .string s => s
  | _ => ⟨#[]⟩
def isStr : Value → Bool
  | .string _ => true
  | _ => false
theorem rd_lits (w : World) (t : TypeId) (n : Nat) (cs : Array Value) (hn : cs.size = n) (h : cs.toList.all isStr = true) : Rd (w.alloc (.cells cs t)) (some ⟨w.heap.size, 0, none⟩) n (fun j => .string (strOf (cs.getD j undef))) := fun h0 => by
  refine ⟨w.heap.size, 0, rfl, by simp, fun j hj => ?_⟩
  have hj2 : j < cs.size := by omega
  rw [World.cell?_alloc_at _ _ _ _ rfl, Nat.zero_add]
  have h1 : cs[j]? = some cs[j] := Array.getElem?_eq_getElem hj2
  have h2 : isStr cs[j] = true := (List.all_eq_true.1 h) _ (by rw [Array.mem_toList_iff]; exact Array.getElem_mem hj2)
  have h3 : cs.getD j undef = cs[j] := by simp [Array.getD, hj2]
  show cs[j]? = some (.string (strOf (cs.getD j undef)))
  rw [h3, h1]
  revert h2
  cases cs[j] <;> simp [isStr, strOf]

/-- A table of the package: where the mode's table has a string, the same. -/
def CharPost (k n : Nat) (w : World) (e : Ending) (w' : World) : Prop := ∃ (b : Nat) (t : Nat → ByteArray), e = .returned (.slice (some ⟨b, 0, none⟩) n n) ∧ Hid (Rd w' (some ⟨b, 0, none⟩) n (fun j => .string (t j))) ∧ Hid (∀ j, j < n → tb k j ≠ ⟨#[]⟩ → t j = tb k j) ∧ Below w.heap.size w w'
theorem CharPost.mk {k n : Nat} {w : World} {cs : Array Value} {t : TypeId} (hn : cs.size = n) (h : cs.toList.all isStr = true) (ht : ∀ j : Fin n, tb k j.val ≠ ⟨#[]⟩ → strOf (cs.getD j.val undef) = tb k j.val) :
    CharPost k n w (.returned (.slice (some ⟨w.heap.size, 0, none⟩) n n)) (w.alloc (.cells cs t)) :=
  ⟨w.heap.size, _, rfl, Lib.hid (rd_lits w t n cs hn h), Lib.hid (fun j hj hne => ht ⟨j, hj⟩ hne), below_lit _ _⟩

set_option maxRecDepth 100000 in
set_option maxHeartbeats 1600000 in
theorem table0 (w : World) : Calls Try.prog 55 #[] w (CharPost 0 32 w) := by
  go_enter Try.func55, Try.ntmps55
  go_wp2_with fail
  go_ret
  exact CharPost.mk rfl rfl (by decide +kernel)

set_option maxRecDepth 100000 in
set_option maxHeartbeats 1600000 in
theorem table1 (w : World) : Calls Try.prog 56 #[] w (CharPost 1 32 w) := by
  go_enter Try.func56, Try.ntmps56
  go_wp2_with fail
  go_ret
  exact CharPost.mk rfl rfl (by decide +kernel)

set_option maxRecDepth 100000 in
set_option maxHeartbeats 1600000 in
theorem table2 (w : World) : Calls Try.prog 57 #[] w (CharPost 2 32 w) := by
  go_enter Try.func57, Try.ntmps57
  go_wp2_with fail
  go_ret
  exact CharPost.mk rfl rfl (by decide +kernel)

set_option maxRecDepth 100000 in
set_option maxHeartbeats 1600000 in
theorem table3 (w : World) : Calls Try.prog 58 #[] w (CharPost 3 32 w) := by
  go_enter Try.func58, Try.ntmps58
  go_wp2_with fail
  go_ret
  exact CharPost.mk rfl rfl (by decide +kernel)

set_option maxRecDepth 100000 in
set_option maxHeartbeats 1600000 in
theorem table4 (w : World) : Calls Try.prog 59 #[] w (CharPost 4 16 w) := by
  go_enter Try.func59, Try.ntmps59
  go_wp2_with fail
  go_ret
  exact CharPost.mk rfl rfl (by decide +kernel)

/-- A character: where the mode has a string, that. -/
def SignPost (k q : Nat) (last : Value) (w : World) (e : Ending) (w' : World) : Prop := ∃ s : ByteArray, e = .returned (.tuple #[.string s, last]) ∧ Hid (tb k q ≠ ⟨#[]⟩ → s = tb k q) ∧ Below w.heap.size w w'

set_option maxRecDepth 100000 in
set_option maxHeartbeats 1600000 in
theorem getChar0 (q : Nat) (hq : q < 32) (w : World) : Calls Try.prog 46 #[.int .i64 0, .int .i64 q] w (SignPost 0 q .nilIface w) := by
  have hq0 : (0 : Int) ≤ (q : Int) := by omega
  have hq1 : (q : Int) < 32 := by omega
  have hq2 : decide ((32 : Int) ≤ (q : Int)) = false := by simp; omega
  go_enter Try.func46, Try.ntmps46
  go_wp2_with fail
  refine (table0 _).mono ?_
  rintro e w1 ⟨b, t, rfl, HR, HT, hb⟩
  obtain ⟨b0, off, e0, hb0, hc⟩ := HR.out (by omega)
  injection e0 with e0
  injection e0 with e0 e1 _
  subst e0 e1
  have hcq := hc q hq
  rw [Nat.zero_add] at hcq
  dsimp only at hcq
  have HB := Lib.hid hb
  have HS : Hid (tb 0 q ≠ ⟨#[]⟩ → t q = tb 0 q) := Lib.hid (HT.out q hq)
  generalize t q = s at *
  clear hb hc HR HT
  go_wp2_with fail
  go_ret2
  exact ⟨s, rfl, HS, HB.out⟩
set_option maxRecDepth 100000 in
set_option maxHeartbeats 1600000 in
theorem door0 (q : Nat) (hq : q < 32) (w : World) : Calls Try.prog 37 #[.int .i64 0, .int .i64 q] w (SignPost 0 q .nilIface w) := by
  go_enter Try.func37, Try.ntmps37
  go_wp2_with fail
  refine (getChar0 q hq _).mono ?_
  rintro e w1 ⟨s, rfl, HS, hb⟩
  have HB := Lib.hid hb
  clear hb
  go_wp2_with fail
  go_ret2
  exact ⟨s, rfl, HS, HB.out⟩
set_option maxRecDepth 100000 in
set_option maxHeartbeats 1600000 in
theorem azSign0 (q : Nat) (hq : q < 32) (w : World) : Calls Try.prog 21 #[.int .i64 0, .int .i64 q] w (SignPost 0 q (.bool true) w) := by
  have heqe : ∀ W, (binOp .eql 62 .nilIface .nilIface).run Try.prog W = .ok (.bool true) W := fun W => rfl
  go_enter Try.func21, Try.ntmps21
  go_wp2_with fail
  refine (door0 q hq _).mono ?_
  rintro e w1 ⟨s, rfl, HS, hb⟩
  have HB := Lib.hid hb
  clear hb
  go_wp2_with fail
  go_quiet (fail)
  go_wp2_with fail
  go_ret2
  exact ⟨s, rfl, HS, below_drewN HB.out _⟩

set_option maxRecDepth 100000 in
set_option maxHeartbeats 1600000 in
theorem getChar1 (q : Nat) (hq : q < 32) (w : World) : Calls Try.prog 46 #[.int .i64 1, .int .i64 q] w (SignPost 1 q .nilIface w) := by
  have hq0 : (0 : Int) ≤ (q : Int) := by omega
  have hq1 : (q : Int) < 32 := by omega
  have hq2 : decide ((32 : Int) ≤ (q : Int)) = false := by simp; omega
  go_enter Try.func46, Try.ntmps46
  go_wp2_with fail
  refine (table1 _).mono ?_
  rintro e w1 ⟨b, t, rfl, HR, HT, hb⟩
  obtain ⟨b0, off, e0, hb0, hc⟩ := HR.out (by omega)
  injection e0 with e0
  injection e0 with e0 e1 _
  subst e0 e1
  have hcq := hc q hq
  rw [Nat.zero_add] at hcq
  dsimp only at hcq
  have HB := Lib.hid hb
  have HS : Hid (tb 1 q ≠ ⟨#[]⟩ → t q = tb 1 q) := Lib.hid (HT.out q hq)
  generalize t q = s at *
  clear hb hc HR HT
  go_wp2_with fail
  go_ret2
  exact ⟨s, rfl, HS, HB.out⟩
set_option maxRecDepth 100000 in
set_option maxHeartbeats 1600000 in
theorem door1 (q : Nat) (hq : q < 32) (w : World) : Calls Try.prog 37 #[.int .i64 1, .int .i64 q] w (SignPost 1 q .nilIface w) := by
  go_enter Try.func37, Try.ntmps37
  go_wp2_with fail
  refine (getChar1 q hq _).mono ?_
  rintro e w1 ⟨s, rfl, HS, hb⟩
  have HB := Lib.hid hb
  clear hb
  go_wp2_with fail
  go_ret2
  exact ⟨s, rfl, HS, HB.out⟩
set_option maxRecDepth 100000 in
set_option maxHeartbeats 1600000 in
theorem azSign1 (q : Nat) (hq : q < 32) (w : World) : Calls Try.prog 21 #[.int .i64 1, .int .i64 q] w (SignPost 1 q (.bool true) w) := by
  have heqe : ∀ W, (binOp .eql 62 .nilIface .nilIface).run Try.prog W = .ok (.bool true) W := fun W => rfl
  go_enter Try.func21, Try.ntmps21
  go_wp2_with fail
  refine (door1 q hq _).mono ?_
  rintro e w1 ⟨s, rfl, HS, hb⟩
  have HB := Lib.hid hb
  clear hb
  go_wp2_with fail
  go_quiet (fail)
  go_wp2_with fail
  go_ret2
  exact ⟨s, rfl, HS, below_drewN HB.out _⟩

set_option maxRecDepth 100000 in
set_option maxHeartbeats 1600000 in
theorem getChar2 (q : Nat) (hq : q < 32) (w : World) : Calls Try.prog 46 #[.int .i64 2, .int .i64 q] w (SignPost 2 q .nilIface w) := by
  have hq0 : (0 : Int) ≤ (q : Int) := by omega
  have hq1 : (q : Int) < 32 := by omega
  have hq2 : decide ((32 : Int) ≤ (q : Int)) = false := by simp; omega
  go_enter Try.func46, Try.ntmps46
  go_wp2_with fail
  refine (table2 _).mono ?_
  rintro e w1 ⟨b, t, rfl, HR, HT, hb⟩
  obtain ⟨b0, off, e0, hb0, hc⟩ := HR.out (by omega)
  injection e0 with e0
  injection e0 with e0 e1 _
  subst e0 e1
  have hcq := hc q hq
  rw [Nat.zero_add] at hcq
  dsimp only at hcq
  have HB := Lib.hid hb
  have HS : Hid (tb 2 q ≠ ⟨#[]⟩ → t q = tb 2 q) := Lib.hid (HT.out q hq)
  generalize t q = s at *
  clear hb hc HR HT
  go_wp2_with fail
  go_ret2
  exact ⟨s, rfl, HS, HB.out⟩
set_option maxRecDepth 100000 in
set_option maxHeartbeats 1600000 in
theorem door2 (q : Nat) (hq : q < 32) (w : World) : Calls Try.prog 37 #[.int .i64 2, .int .i64 q] w (SignPost 2 q .nilIface w) := by
  go_enter Try.func37, Try.ntmps37
  go_wp2_with fail
  refine (getChar2 q hq _).mono ?_
  rintro e w1 ⟨s, rfl, HS, hb⟩
  have HB := Lib.hid hb
  clear hb
  go_wp2_with fail
  go_ret2
  exact ⟨s, rfl, HS, HB.out⟩
set_option maxRecDepth 100000 in
set_option maxHeartbeats 1600000 in
theorem azSign2 (q : Nat) (hq : q < 32) (w : World) : Calls Try.prog 21 #[.int .i64 2, .int .i64 q] w (SignPost 2 q (.bool true) w) := by
  have heqe : ∀ W, (binOp .eql 62 .nilIface .nilIface).run Try.prog W = .ok (.bool true) W := fun W => rfl
  go_enter Try.func21, Try.ntmps21
  go_wp2_with fail
  refine (door2 q hq _).mono ?_
  rintro e w1 ⟨s, rfl, HS, hb⟩
  have HB := Lib.hid hb
  clear hb
  go_wp2_with fail
  go_quiet (fail)
  go_wp2_with fail
  go_ret2
  exact ⟨s, rfl, HS, below_drewN HB.out _⟩

set_option maxRecDepth 100000 in
set_option maxHeartbeats 1600000 in
theorem getChar3 (q : Nat) (hq : q < 32) (w : World) : Calls Try.prog 46 #[.int .i64 4, .int .i64 q] w (SignPost 3 q .nilIface w) := by
  have hq0 : (0 : Int) ≤ (q : Int) := by omega
  have hq1 : (q : Int) < 32 := by omega
  have hq2 : decide ((32 : Int) ≤ (q : Int)) = false := by simp; omega
  go_enter Try.func46, Try.ntmps46
  go_wp2_with fail
  refine (table3 _).mono ?_
  rintro e w1 ⟨b, t, rfl, HR, HT, hb⟩
  obtain ⟨b0, off, e0, hb0, hc⟩ := HR.out (by omega)
  injection e0 with e0
  injection e0 with e0 e1 _
  subst e0 e1
  have hcq := hc q hq
  rw [Nat.zero_add] at hcq
  dsimp only at hcq
  have HB := Lib.hid hb
  have HS : Hid (tb 3 q ≠ ⟨#[]⟩ → t q = tb 3 q) := Lib.hid (HT.out q hq)
  generalize t q = s at *
  clear hb hc HR HT
  go_wp2_with fail
  go_ret2
  exact ⟨s, rfl, HS, HB.out⟩
set_option maxRecDepth 100000 in
set_option maxHeartbeats 1600000 in
theorem door3 (q : Nat) (hq : q < 32) (w : World) : Calls Try.prog 37 #[.int .i64 4, .int .i64 q] w (SignPost 3 q .nilIface w) := by
  go_enter Try.func37, Try.ntmps37
  go_wp2_with fail
  refine (getChar3 q hq _).mono ?_
  rintro e w1 ⟨s, rfl, HS, hb⟩
  have HB := Lib.hid hb
  clear hb
  go_wp2_with fail
  go_ret2
  exact ⟨s, rfl, HS, HB.out⟩
set_option maxRecDepth 100000 in
set_option maxHeartbeats 1600000 in
theorem azSign3 (q : Nat) (hq : q < 32) (w : World) : Calls Try.prog 21 #[.int .i64 4, .int .i64 q] w (SignPost 3 q (.bool true) w) := by
  have heqe : ∀ W, (binOp .eql 62 .nilIface .nilIface).run Try.prog W = .ok (.bool true) W := fun W => rfl
  go_enter Try.func21, Try.ntmps21
  go_wp2_with fail
  refine (door3 q hq _).mono ?_
  rintro e w1 ⟨s, rfl, HS, hb⟩
  have HB := Lib.hid hb
  clear hb
  go_wp2_with fail
  go_quiet (fail)
  go_wp2_with fail
  go_ret2
  exact ⟨s, rfl, HS, below_drewN HB.out _⟩

set_option maxRecDepth 100000 in
set_option maxHeartbeats 1600000 in
theorem getChar4 (q : Nat) (hq : q < 16) (w : World) : Calls Try.prog 46 #[.int .i64 3, .int .i64 q] w (SignPost 4 q .nilIface w) := by
  have hq0 : (0 : Int) ≤ (q : Int) := by omega
  have hq1 : (q : Int) < 16 := by omega
  have hq2 : decide ((16 : Int) ≤ (q : Int)) = false := by simp; omega
  go_enter Try.func46, Try.ntmps46
  go_wp2_with fail
  refine (table4 _).mono ?_
  rintro e w1 ⟨b, t, rfl, HR, HT, hb⟩
  obtain ⟨b0, off, e0, hb0, hc⟩ := HR.out (by omega)
  injection e0 with e0
  injection e0 with e0 e1 _
  subst e0 e1
  have hcq := hc q hq
  rw [Nat.zero_add] at hcq
  dsimp only at hcq
  have HB := Lib.hid hb
  have HS : Hid (tb 4 q ≠ ⟨#[]⟩ → t q = tb 4 q) := Lib.hid (HT.out q hq)
  generalize t q = s at *
  clear hb hc HR HT
  go_wp2_with fail
  go_ret2
  exact ⟨s, rfl, HS, HB.out⟩
set_option maxRecDepth 100000 in
set_option maxHeartbeats 1600000 in
theorem door4 (q : Nat) (hq : q < 16) (w : World) : Calls Try.prog 37 #[.int .i64 3, .int .i64 q] w (SignPost 4 q .nilIface w) := by
  go_enter Try.func37, Try.ntmps37
  go_wp2_with fail
  refine (getChar4 q hq _).mono ?_
  rintro e w1 ⟨s, rfl, HS, hb⟩
  have HB := Lib.hid hb
  clear hb
  go_wp2_with fail
  go_ret2
  exact ⟨s, rfl, HS, HB.out⟩
set_option maxRecDepth 100000 in
set_option maxHeartbeats 1600000 in
theorem azSign4 (q : Nat) (hq : q < 16) (w : World) : Calls Try.prog 21 #[.int .i64 3, .int .i64 q] w (SignPost 4 q (.bool true) w) := by
  have heqe : ∀ W, (binOp .eql 62 .nilIface .nilIface).run Try.prog W = .ok (.bool true) W := fun W => rfl
  go_enter Try.func21, Try.ntmps21
  go_wp2_with fail
  refine (door4 q hq _).mono ?_
  rintro e w1 ⟨s, rfl, HS, hb⟩
  have HB := Lib.hid hb
  clear hb
  go_wp2_with fail
  go_quiet (fail)
  go_wp2_with fail
  go_ret2
  exact ⟨s, rfl, HS, below_drewN HB.out _⟩

theorem rem_run (a b c : Int) (h0 : ¬ b = 0) (h : a.tmod b = c) (W : World) : (binOp .rem 3 (.int .i64 a) (.int .i64 b)).run Try.prog W = .ok (.int .i64 c) W := by
  subst h
  show ((Op.intDiv .rem .i64 a b).run Try.prog W) = _
  unfold Op.intDiv
  simp [h0, go_sem]

set_option maxRecDepth 100000 in
set_option maxHeartbeats 3200000 in
theorem fnAZSigns (w : World) (y : Int) (hy : (Lit.int .u8 y).wf = true) (x : Int) (hx : (Lit.int .u8 x).wf = true) :
    Calls Try.prog 6 #[.int .u8 y, .int .u8 x] w fun e w' => e = .returned (.bool true) ∧ Below w.heap.size w w' := by
  obtain ⟨y, rfl⟩ : ∃ z : Nat, y = z := ⟨y.toNat, by have := bd_u8 hy; omega⟩
  obtain ⟨x, rfl⟩ : ∃ z : Nat, x = z := ⟨x.toNat, by have := bd_u8 hx; omega⟩
  have hy1 : y < 256 := by have := bd_u8 hy; omega
  have hx1 : x < 256 := by have := bd_u8 hx; omega
  clear hy hx
  have hyy : y % 5 = 0 ∨ y % 5 = 1 ∨ y % 5 = 2 ∨ y % 5 = 3 ∨ y % 5 = 4 := by omega
  rcases hyy with hk | hk | hk | hk | hk
  · have ek : (y : Int) % 5 = 0 := by omega
    obtain ⟨q, hq⟩ : ∃ q, q = x % 32 := ⟨_, rfl⟩
    have eq : (x : Int).tmod 32 = (q : Int) := by rw [Int.tmod_eq_emod_of_nonneg (by omega)]; omega
    have hrem := fun W => rem_run (x : Int) 32 (q : Int) (by omega) eq W
    have eq2 : (x : Int) % 32 = (q : Int) := by omega
    have hq2 : q < 32 := by omega
    have hq0 : (0 : Int) ≤ (q : Int) := by omega
    have hq1 : (q : Int) < 32 := by omega
    clear hk hq
    go_enter Try.func6, Try.ntmps6
    go_wp2_with fail
    simp only [ek]
    refine (azTable0 _).mono ?_
    rintro e w1 ⟨A1, m, c1, f, rfl, HR, hb, hm, HF⟩
    obtain rfl : m = 32 := HF.out.1
    obtain ⟨b0, off, rfl, hb0, hc⟩ := HR.out (by omega)
    have hcq := hc q hq2
    dsimp only at hcq
    rw [HF.out.2 q hq2] at hcq
    have HSG := Lib.hid (fun W => azSign0 q hq2 W)
    obtain ⟨s, hs⟩ : ∃ s, s = tb 0 q := ⟨_, rfl⟩
    have HSG2 : Hid (∀ W, Calls Try.prog 21 #[.int .i64 0, .int .i64 q] W fun e w' => ∃ s' : ByteArray, e = .returned (.tuple #[.string s', .bool true]) ∧ Hid (s ≠ ⟨#[]⟩ → s' = s) ∧ Below W.heap.size W w') := Lib.hid (by rw [hs]; exact HSG.out)
    rw [← hs] at hcq
    have HB := Lib.hid hb
    have hb0' := hb0
    have hcw : ∀ W : World, Below w1.heap.size w1 W → W.cell? ⟨b0, off + q, none⟩ = some (.string s) := fun W hW => (hW.cell (p := ⟨b0, off + q, none⟩) hb0).trans hcq
    have HCW := Lib.hid hcw
    clear hb hc HR HF hs HSG hcw
    have hidx : ∀ W, (Instr.index 44 (.agg #[.int .i64 0, .int .i64 1, .int .i64 2, .int .i64 4, .int .i64 3]) (.int .i64 0)).run Try.prog W = .ok (.int .i64 0) W := fun W => by
      have hu : Try.prog.underlying 44 = some (.array 5 3) := by kernel_rfl
      simp [Instr.index, run_underlying hu, asIntOf, go_sem]
    by_cases he : s.toList = []
    · have he1 : s.toList.isEmpty = true := by rw [he]; rfl
      go_wp2_with fail
      go_ret
      exact ⟨rfl, HB.out⟩
    · have he1 : s.toList.isEmpty = false := by cases h : s.toList with
        | nil => exact absurd h he
        | cons => rfl
      have hne : s ≠ ⟨#[]⟩ := fun e => he (by rw [e, ByteArray.toList_eq])
      have HNE := Lib.hid hne
      clear hne he
      go_wp2_with fail
      refine (HSG2.out _).mono ?_
      rintro e w2 ⟨s', rfl, hs', hb2⟩
      obtain rfl : s' = s := hs'.out HNE.out
      have hcq2 := HCW.out w2 hb2
      have HB2 := Lib.hid (HB.out.trans (hb2.mono HB.out.size))
      clear hb2 hs' hcq
      go_wp2_with fail
      go_ret
      exact ⟨rfl, HB2.out⟩
  · have ek : (y : Int) % 5 = 1 := by omega
    obtain ⟨q, hq⟩ : ∃ q, q = x % 32 := ⟨_, rfl⟩
    have eq : (x : Int).tmod 32 = (q : Int) := by rw [Int.tmod_eq_emod_of_nonneg (by omega)]; omega
    have hrem := fun W => rem_run (x : Int) 32 (q : Int) (by omega) eq W
    have eq2 : (x : Int) % 32 = (q : Int) := by omega
    have hq2 : q < 32 := by omega
    have hq0 : (0 : Int) ≤ (q : Int) := by omega
    have hq1 : (q : Int) < 32 := by omega
    clear hk hq
    go_enter Try.func6, Try.ntmps6
    go_wp2_with fail
    simp only [ek]
    refine (azTable1 _).mono ?_
    rintro e w1 ⟨A1, m, c1, f, rfl, HR, hb, hm, HF⟩
    obtain rfl : m = 32 := HF.out.1
    obtain ⟨b0, off, rfl, hb0, hc⟩ := HR.out (by omega)
    have hcq := hc q hq2
    dsimp only at hcq
    rw [HF.out.2 q hq2] at hcq
    have HSG := Lib.hid (fun W => azSign1 q hq2 W)
    obtain ⟨s, hs⟩ : ∃ s, s = tb 1 q := ⟨_, rfl⟩
    have HSG2 : Hid (∀ W, Calls Try.prog 21 #[.int .i64 1, .int .i64 q] W fun e w' => ∃ s' : ByteArray, e = .returned (.tuple #[.string s', .bool true]) ∧ Hid (s ≠ ⟨#[]⟩ → s' = s) ∧ Below W.heap.size W w') := Lib.hid (by rw [hs]; exact HSG.out)
    rw [← hs] at hcq
    have HB := Lib.hid hb
    have hb0' := hb0
    have hcw : ∀ W : World, Below w1.heap.size w1 W → W.cell? ⟨b0, off + q, none⟩ = some (.string s) := fun W hW => (hW.cell (p := ⟨b0, off + q, none⟩) hb0).trans hcq
    have HCW := Lib.hid hcw
    clear hb hc HR HF hs HSG hcw
    have hidx : ∀ W, (Instr.index 44 (.agg #[.int .i64 0, .int .i64 1, .int .i64 2, .int .i64 4, .int .i64 3]) (.int .i64 1)).run Try.prog W = .ok (.int .i64 1) W := fun W => by
      have hu : Try.prog.underlying 44 = some (.array 5 3) := by kernel_rfl
      simp [Instr.index, run_underlying hu, asIntOf, go_sem]
    by_cases he : s.toList = []
    · have he1 : s.toList.isEmpty = true := by rw [he]; rfl
      go_wp2_with fail
      go_ret
      exact ⟨rfl, HB.out⟩
    · have he1 : s.toList.isEmpty = false := by cases h : s.toList with
        | nil => exact absurd h he
        | cons => rfl
      have hne : s ≠ ⟨#[]⟩ := fun e => he (by rw [e, ByteArray.toList_eq])
      have HNE := Lib.hid hne
      clear hne he
      go_wp2_with fail
      refine (HSG2.out _).mono ?_
      rintro e w2 ⟨s', rfl, hs', hb2⟩
      obtain rfl : s' = s := hs'.out HNE.out
      have hcq2 := HCW.out w2 hb2
      have HB2 := Lib.hid (HB.out.trans (hb2.mono HB.out.size))
      clear hb2 hs' hcq
      go_wp2_with fail
      go_ret
      exact ⟨rfl, HB2.out⟩
  · have ek : (y : Int) % 5 = 2 := by omega
    obtain ⟨q, hq⟩ : ∃ q, q = x % 32 := ⟨_, rfl⟩
    have eq : (x : Int).tmod 32 = (q : Int) := by rw [Int.tmod_eq_emod_of_nonneg (by omega)]; omega
    have hrem := fun W => rem_run (x : Int) 32 (q : Int) (by omega) eq W
    have eq2 : (x : Int) % 32 = (q : Int) := by omega
    have hq2 : q < 32 := by omega
    have hq0 : (0 : Int) ≤ (q : Int) := by omega
    have hq1 : (q : Int) < 32 := by omega
    clear hk hq
    go_enter Try.func6, Try.ntmps6
    go_wp2_with fail
    simp only [ek]
    refine (azTable2 _).mono ?_
    rintro e w1 ⟨A1, m, c1, f, rfl, HR, hb, hm, HF⟩
    obtain rfl : m = 32 := HF.out.1
    obtain ⟨b0, off, rfl, hb0, hc⟩ := HR.out (by omega)
    have hcq := hc q hq2
    dsimp only at hcq
    rw [HF.out.2 q hq2] at hcq
    have HSG := Lib.hid (fun W => azSign2 q hq2 W)
    obtain ⟨s, hs⟩ : ∃ s, s = tb 2 q := ⟨_, rfl⟩
    have HSG2 : Hid (∀ W, Calls Try.prog 21 #[.int .i64 2, .int .i64 q] W fun e w' => ∃ s' : ByteArray, e = .returned (.tuple #[.string s', .bool true]) ∧ Hid (s ≠ ⟨#[]⟩ → s' = s) ∧ Below W.heap.size W w') := Lib.hid (by rw [hs]; exact HSG.out)
    rw [← hs] at hcq
    have HB := Lib.hid hb
    have hb0' := hb0
    have hcw : ∀ W : World, Below w1.heap.size w1 W → W.cell? ⟨b0, off + q, none⟩ = some (.string s) := fun W hW => (hW.cell (p := ⟨b0, off + q, none⟩) hb0).trans hcq
    have HCW := Lib.hid hcw
    clear hb hc HR HF hs HSG hcw
    have hidx : ∀ W, (Instr.index 44 (.agg #[.int .i64 0, .int .i64 1, .int .i64 2, .int .i64 4, .int .i64 3]) (.int .i64 2)).run Try.prog W = .ok (.int .i64 2) W := fun W => by
      have hu : Try.prog.underlying 44 = some (.array 5 3) := by kernel_rfl
      simp [Instr.index, run_underlying hu, asIntOf, go_sem]
    by_cases he : s.toList = []
    · have he1 : s.toList.isEmpty = true := by rw [he]; rfl
      go_wp2_with fail
      go_ret
      exact ⟨rfl, HB.out⟩
    · have he1 : s.toList.isEmpty = false := by cases h : s.toList with
        | nil => exact absurd h he
        | cons => rfl
      have hne : s ≠ ⟨#[]⟩ := fun e => he (by rw [e, ByteArray.toList_eq])
      have HNE := Lib.hid hne
      clear hne he
      go_wp2_with fail
      refine (HSG2.out _).mono ?_
      rintro e w2 ⟨s', rfl, hs', hb2⟩
      obtain rfl : s' = s := hs'.out HNE.out
      have hcq2 := HCW.out w2 hb2
      have HB2 := Lib.hid (HB.out.trans (hb2.mono HB.out.size))
      clear hb2 hs' hcq
      go_wp2_with fail
      go_ret
      exact ⟨rfl, HB2.out⟩
  · have ek : (y : Int) % 5 = 3 := by omega
    obtain ⟨q, hq⟩ : ∃ q, q = x % 32 := ⟨_, rfl⟩
    have eq : (x : Int).tmod 32 = (q : Int) := by rw [Int.tmod_eq_emod_of_nonneg (by omega)]; omega
    have hrem := fun W => rem_run (x : Int) 32 (q : Int) (by omega) eq W
    have eq2 : (x : Int) % 32 = (q : Int) := by omega
    have hq2 : q < 32 := by omega
    have hq0 : (0 : Int) ≤ (q : Int) := by omega
    have hq1 : (q : Int) < 32 := by omega
    clear hk hq
    go_enter Try.func6, Try.ntmps6
    go_wp2_with fail
    simp only [ek]
    refine (azTable3 _).mono ?_
    rintro e w1 ⟨A1, m, c1, f, rfl, HR, hb, hm, HF⟩
    obtain rfl : m = 32 := HF.out.1
    obtain ⟨b0, off, rfl, hb0, hc⟩ := HR.out (by omega)
    have hcq := hc q hq2
    dsimp only at hcq
    rw [HF.out.2 q hq2] at hcq
    have HSG := Lib.hid (fun W => azSign3 q hq2 W)
    obtain ⟨s, hs⟩ : ∃ s, s = tb 3 q := ⟨_, rfl⟩
    have HSG2 : Hid (∀ W, Calls Try.prog 21 #[.int .i64 4, .int .i64 q] W fun e w' => ∃ s' : ByteArray, e = .returned (.tuple #[.string s', .bool true]) ∧ Hid (s ≠ ⟨#[]⟩ → s' = s) ∧ Below W.heap.size W w') := Lib.hid (by rw [hs]; exact HSG.out)
    rw [← hs] at hcq
    have HB := Lib.hid hb
    have hb0' := hb0
    have hcw : ∀ W : World, Below w1.heap.size w1 W → W.cell? ⟨b0, off + q, none⟩ = some (.string s) := fun W hW => (hW.cell (p := ⟨b0, off + q, none⟩) hb0).trans hcq
    have HCW := Lib.hid hcw
    clear hb hc HR HF hs HSG hcw
    have hidx : ∀ W, (Instr.index 44 (.agg #[.int .i64 0, .int .i64 1, .int .i64 2, .int .i64 4, .int .i64 3]) (.int .i64 3)).run Try.prog W = .ok (.int .i64 4) W := fun W => by
      have hu : Try.prog.underlying 44 = some (.array 5 3) := by kernel_rfl
      simp [Instr.index, run_underlying hu, asIntOf, go_sem]
    by_cases he : s.toList = []
    · have he1 : s.toList.isEmpty = true := by rw [he]; rfl
      go_wp2_with fail
      go_ret
      exact ⟨rfl, HB.out⟩
    · have he1 : s.toList.isEmpty = false := by cases h : s.toList with
        | nil => exact absurd h he
        | cons => rfl
      have hne : s ≠ ⟨#[]⟩ := fun e => he (by rw [e, ByteArray.toList_eq])
      have HNE := Lib.hid hne
      clear hne he
      go_wp2_with fail
      refine (HSG2.out _).mono ?_
      rintro e w2 ⟨s', rfl, hs', hb2⟩
      obtain rfl : s' = s := hs'.out HNE.out
      have hcq2 := HCW.out w2 hb2
      have HB2 := Lib.hid (HB.out.trans (hb2.mono HB.out.size))
      clear hb2 hs' hcq
      go_wp2_with fail
      go_ret
      exact ⟨rfl, HB2.out⟩
  · have ek : (y : Int) % 5 = 4 := by omega
    obtain ⟨q, hq⟩ : ∃ q, q = x % 16 := ⟨_, rfl⟩
    have eq : (x : Int).tmod 16 = (q : Int) := by rw [Int.tmod_eq_emod_of_nonneg (by omega)]; omega
    have hrem := fun W => rem_run (x : Int) 16 (q : Int) (by omega) eq W
    have eq2 : (x : Int) % 16 = (q : Int) := by omega
    have hq2 : q < 16 := by omega
    have hq0 : (0 : Int) ≤ (q : Int) := by omega
    have hq1 : (q : Int) < 16 := by omega
    clear hk hq
    go_enter Try.func6, Try.ntmps6
    go_wp2_with fail
    simp only [ek]
    refine (azTable4 _).mono ?_
    rintro e w1 ⟨A1, m, c1, f, rfl, HR, hb, hm, HF⟩
    obtain rfl : m = 16 := HF.out.1
    obtain ⟨b0, off, rfl, hb0, hc⟩ := HR.out (by omega)
    have hcq := hc q hq2
    dsimp only at hcq
    rw [HF.out.2 q hq2] at hcq
    have HSG := Lib.hid (fun W => azSign4 q hq2 W)
    obtain ⟨s, hs⟩ : ∃ s, s = tb 4 q := ⟨_, rfl⟩
    have HSG2 : Hid (∀ W, Calls Try.prog 21 #[.int .i64 3, .int .i64 q] W fun e w' => ∃ s' : ByteArray, e = .returned (.tuple #[.string s', .bool true]) ∧ Hid (s ≠ ⟨#[]⟩ → s' = s) ∧ Below W.heap.size W w') := Lib.hid (by rw [hs]; exact HSG.out)
    rw [← hs] at hcq
    have HB := Lib.hid hb
    have hb0' := hb0
    have hcw : ∀ W : World, Below w1.heap.size w1 W → W.cell? ⟨b0, off + q, none⟩ = some (.string s) := fun W hW => (hW.cell (p := ⟨b0, off + q, none⟩) hb0).trans hcq
    have HCW := Lib.hid hcw
    clear hb hc HR HF hs HSG hcw
    have hidx : ∀ W, (Instr.index 44 (.agg #[.int .i64 0, .int .i64 1, .int .i64 2, .int .i64 4, .int .i64 3]) (.int .i64 4)).run Try.prog W = .ok (.int .i64 3) W := fun W => by
      have hu : Try.prog.underlying 44 = some (.array 5 3) := by kernel_rfl
      simp [Instr.index, run_underlying hu, asIntOf, go_sem]
    by_cases he : s.toList = []
    · have he1 : s.toList.isEmpty = true := by rw [he]; rfl
      go_wp2_with fail
      go_ret
      exact ⟨rfl, HB.out⟩
    · have he1 : s.toList.isEmpty = false := by cases h : s.toList with
        | nil => exact absurd h he
        | cons => rfl
      have hne : s ≠ ⟨#[]⟩ := fun e => he (by rw [e, ByteArray.toList_eq])
      have HNE := Lib.hid hne
      clear hne he
      go_wp2_with fail
      refine (HSG2.out _).mono ?_
      rintro e w2 ⟨s', rfl, hs', hb2⟩
      obtain rfl : s' = s := hs'.out HNE.out
      have hcq2 := HCW.out w2 hb2
      have HB2 := Lib.hid (HB.out.trans (hb2.mono HB.out.size))
      clear hb2 hs' hcq
      go_wp2_with fail
      go_ret
      exact ⟨rfl, HB2.out⟩
end Go.Proofs.Ytpgkbhlgechpmaa

