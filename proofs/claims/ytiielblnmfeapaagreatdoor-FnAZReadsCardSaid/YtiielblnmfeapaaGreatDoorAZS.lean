/-
  azOne and AZTable, walked. No condition beyond the bounds that each theorem states.
-/
import Derived.Test.YtiielblnmfeapaaGreatDoorBase
import Derived.Test.YtiielblnmfeapaaGreatDoorRows
import Derived.WideLaws
import Derived.Deep.RegionHeld3
import Derived.Deep.QuietTactic
import Derived.BigQuiet
import Derived.Laws.OwnMore
import Derived.Deep.DeepCutAuto
namespace Go.Proofs.YtiielblnmfeapaaGreatDoor
open Go.RowKit Go.Qz
set_option linter.unusedVariables false

theorem Tryz.infoStr : (Tryz.prog.info? 9).map (fun i => (i.zero, i.size, i.bytes)) = some (some (.string ⟨#[]⟩), 1, 16) := by kernel_rfl

theorem own_fresh {w : World} {base : Nat} {e : TypeId} {v : Value} {n c : Nat} {xs : List Value} {A : Option Addr} (h : w.ownsRow base e 1 v n xs) (hv : v = .slice A n c) : ∀ a, A = some a → base ≤ a.block := fun a ha => (h.lt a.block (by rw [hv, ha]; rfl)).1
/-- A slice of strings, made by the call. -/
def StrPost (n : Nat) (g : Nat → ByteArray) (w : World) (e : Ending) (w' : World) : Prop := ∃ (A : Option Addr) (m c : Nat) (f : Nat → ByteArray), e = .returned (.slice A m c) ∧ Hid (Rd w' A m (fun j => .string (f j))) ∧ Below w.heap.size w w' ∧ m < 1000 ∧ Hid (m = n ∧ ∀ j, j < n → f j = g j) ∧ Hid (∀ a, A = some a → w.heap.size ≤ a.block)

set_option maxRecDepth 100000 in
set_option maxHeartbeats 1600000 in
theorem azOne (S : ByteArray) (hS : S.size < 1000) (w : World) :
    Calls Tryz.prog 74 #[.string S] w (StrPost S.size (fun j => S.extract j (j + 1)) w) := by
  go_enter Tryz.func74, Tryz.ntmps74
  go_wp2_with fail
  go_loopw [3, 4] (fun v i wr => ∃ k : Nat, k ≤ S.size ∧ i = .int .i64 k ∧ wr.ownsRow w.heap.size 9 1 v k ((List.range k).map fun j => Value.string (S.extract j (j + 1))) ∧ Below w.heap.size w wr) (fun _ i _ => S.size - (intOf i).toNat)
  case atStart => exact ⟨0, by omega, rfl, World.ownsRow_nil _ _ _ _, Below.refl _ _⟩
  case round =>
    obtain ⟨k, hk, rfl, hown, hb⟩ := hrel
    have HB := Lib.hid hb
    have HO := Lib.hid hown
    by_cases hlt : k < S.size
    · have hlt1 : (k : Int) < (S.size : Int) := by omega
      have hlt2 : (k : Int) + 1 ≤ (S.size : Int) := by omega
      clear hb hown
      go_wp2_with (at_builtin; refine wpList_push _ _ 99 w.heap.size 9 (.string ⟨#[]⟩) 16 _ k _ (.string (S.extract k (k + 1))) rfl rfl rfl rfl Tryz.underlying99 Tryz.infoStr rfl rfl (by decide) HO.out (by omega) HB.out.size ?_)
      intro v' w' hown2 hg2 hb2
      have HO2 := Lib.hid hown2
      have HB2 := Lib.hid (HB.out.trans hb2)
      clear hown2 hg2 hb2 HO HB
      go_wp2_with fail
      go_roundw
      case rel => exact ⟨k + 1, by omega, by go_num, by rw [List.range_succ, List.map_append]; exact HO2.out, HB2.out⟩
      case measure => simp [intOf]; omega
    · obtain rfl : k = S.size := by omega
      obtain ⟨A, c, hv, hnc, hcm, hrd⟩ := Rd.of_own hown
      have HFR : Hid (∀ a, A = some a → w.heap.size ≤ a.block) := Lib.hid (own_fresh hown hv)
      clear hb hown
      subst hv
      have HR : Hid (Rd wr A S.size (fun j => .string (S.extract j (j + 1)))) := Lib.hid (hrd.congr fun j hj => by simp [List.getD_eq_getElem?_getD, hj])
      clear hrd HO
      go_wp2_with fail
      go_ret
      exact ⟨A, S.size, c, fun j => S.extract j (j + 1), rfl, HR, HB.out, hS, Lib.hid ⟨rfl, fun j _ => rfl⟩, HFR⟩

/-- The strings of a mode, byte by byte. -/
def tbl (k : Nat) : List (List Nat) :=
  if k = 0 then [[], [32]] ++ (List.range 26).map (fun i => [65 + i]) ++ [[], [], [], []]
  else if k = 1 then [[], [32]] ++ (List.range 26).map (fun i => [97 + i]) ++ [[], [], [], []]
  else if k = 2 then [[], [32]] ++ (List.range 13).map (fun i => [1 + i]) ++ (List.range 5).map (fun i => [27 + i]) ++ [[64], [92], [94], [95], [96], [124], [126], [127]] ++ [[], [], [], []]
  else if k = 3 then [[], [13], [13, 10], [46, 32], [44, 32], [58, 32]] ++ (List.range 15).map (fun i => [33 + i]) ++ (List.range 6).map (fun i => [58 + i]) ++ [[91], [93], [123], [125], []]
  else [[], [32]] ++ (List.range 10).map (fun i => [48 + i]) ++ [[44], [46], [], []]
def tb (k j : Nat) : ByteArray := ⟨(((tbl k).getD j []).map UInt8.ofNat).toArray⟩
def tbLen (k : Nat) : Nat := if k = 4 then 16 else 32

theorem below_lit {w : World} (cs : Array Value) (t : TypeId) : Below w.heap.size w (w.alloc (.cells cs t)) := (Below.refl _ _).alloc (Nat.le_refl _) _
theorem rd_lit4 (w : World) (t : TypeId) (n : Nat) (s : ByteArray) (cs : Array Value) (hcs : cs.size = n) (h : ∀ j, j < n → cs[j]? = some (.string s)) : Rd (w.alloc (.cells cs t)) (some ⟨w.heap.size, 0, none⟩) n (fun _ => .string s) := fun h0 => by
  refine ⟨w.heap.size, 0, rfl, by simp, fun j hj => ?_⟩
  rw [World.cell?_alloc_at _ _ _ _ rfl, Nat.zero_add, ← h j hj]

set_option maxRecDepth 100000 in
set_option maxHeartbeats 3200000 in
theorem azTable0 (w : World) :
    Calls Tryz.prog 47 #[.int .i64 0] w (StrPost 32 (tb 0) w) := by
  go_enter Tryz.func47, Tryz.ntmps47
  go_wp2_with fail
  refine (azOne _ (by decide) _).mono ?_
  rintro e w1 ⟨A1, m, c1, f, rfl, HR, hb1, hm, HF, _⟩
  have hown := (World.ownsRow_lit (base := w.heap.size) (e := 9) (size := 1) w #[.string ⟨#[]⟩, .string ⟨#[32]⟩] 2 (Nat.le_refl _) (by decide) rfl)
  have hown1 := own_below hown hb1
  have hb1' := (below_lit (w := w) #[.string ⟨#[]⟩, .string ⟨#[32]⟩] 9).trans (hb1.mono (by simp))
  have HO := Lib.hid hown1
  have HB := Lib.hid hb1'
  clear hown hown1 hb1 hb1'
  go_wp2_with (at_builtin; refine wpList_copyTo _ _ 99 w.heap.size 9 (.string ⟨#[]⟩) 16 _ 2 _ _ m _ _ rfl rfl rfl rfl Tryz.underlying99 Tryz.infoStr rfl (fun j _ => rfl) (by decide) HO.out HR.out (by omega) HB.out.size ?_)
  intro v' w2 hown2 hg2 hb2
  have hb2' := HB.out.trans hb2
  have hb3 : Below w.heap.size w (w2.alloc (.cells #[.string ⟨#[]⟩, .string ⟨#[]⟩, .string ⟨#[]⟩, .string ⟨#[]⟩] 9)) := hb2'.alloc hb2'.size _
  have hrz := rd_lit4 w2 9 4 ⟨#[]⟩ #[.string ⟨#[]⟩, .string ⟨#[]⟩, .string ⟨#[]⟩, .string ⟨#[]⟩] rfl (fun j hj => by
    have : j = 0 ∨ j = 1 ∨ j = 2 ∨ j = 3 := by omega
    rcases this with rfl | rfl | rfl | rfl <;> rfl)
  have HO2 := Lib.hid (hown2.alloc (.cells #[.string ⟨#[]⟩, .string ⟨#[]⟩, .string ⟨#[]⟩, .string ⟨#[]⟩] 9))
  have HB3 := Lib.hid hb3
  have HRZ := Lib.hid hrz
  clear hown2 hg2 hb2 hb2' hb3 hrz HO HB HR
  go_wp2_with (at_builtin; refine wpList_copyTo _ _ 99 w.heap.size 9 (.string ⟨#[]⟩) 16 _ (2 + m) _ _ 4 _ _ rfl rfl rfl rfl Tryz.underlying99 Tryz.infoStr rfl (fun j _ => rfl) (by decide) HO2.out HRZ.out (by omega) HB3.out.size ?_)
  intro v3 w3 hown3 hg3 hb3
  have HB4 := Lib.hid (HB3.out.trans hb3)
  have HO3 := Lib.hid hown3
  clear hown3 hg3 hb3 HB3 HO2 HRZ
  obtain ⟨A3, c3, hv3, _, _, hrd⟩ := Rd.of_own HO3.out
  have HFR : Hid (∀ a, A3 = some a → w.heap.size ≤ a.block) := Lib.hid (own_fresh HO3.out hv3)
  subst hv3
  have hmm : m = 26 := HF.out.1.trans (by decide)
  have HP : Hid (Rd w3 A3 (2 + m + 4) (fun j => .string (tb 0 j)) ∧ 2 + m + 4 = 32) := Lib.hid (by
    rw [hmm] at hrd
    rw [hmm]
    refine ⟨hrd.congr fun j hj => ?_, rfl⟩
    have h5 : j = 0 ∨ j = 1 ∨ j = 2 ∨ j = 3 ∨ j = 4 ∨ j = 5 ∨ j = 6 ∨ j = 7 ∨ j = 8 ∨ j = 9 ∨ j = 10 ∨ j = 11 ∨ j = 12 ∨ j = 13 ∨ j = 14 ∨ j = 15 ∨ j = 16 ∨ j = 17 ∨ j = 18 ∨ j = 19 ∨ j = 20 ∨ j = 21 ∨ j = 22 ∨ j = 23 ∨ j = 24 ∨ j = 25 ∨ j = 26 ∨ j = 27 ∨ j = 28 ∨ j = 29 ∨ j = 30 ∨ j = 31 := by omega
    rcases h5 with rfl | rfl | rfl | rfl | rfl | rfl | rfl | rfl | rfl | rfl | rfl | rfl | rfl | rfl | rfl | rfl | rfl | rfl | rfl | rfl | rfl | rfl | rfl | rfl | rfl | rfl | rfl | rfl | rfl | rfl | rfl | rfl
    · rfl
    · rfl
    · exact congrArg Value.string ((HF.out.2 0 (by decide)).trans (by decide +kernel))
    · exact congrArg Value.string ((HF.out.2 1 (by decide)).trans (by decide +kernel))
    · exact congrArg Value.string ((HF.out.2 2 (by decide)).trans (by decide +kernel))
    · exact congrArg Value.string ((HF.out.2 3 (by decide)).trans (by decide +kernel))
    · exact congrArg Value.string ((HF.out.2 4 (by decide)).trans (by decide +kernel))
    · exact congrArg Value.string ((HF.out.2 5 (by decide)).trans (by decide +kernel))
    · exact congrArg Value.string ((HF.out.2 6 (by decide)).trans (by decide +kernel))
    · exact congrArg Value.string ((HF.out.2 7 (by decide)).trans (by decide +kernel))
    · exact congrArg Value.string ((HF.out.2 8 (by decide)).trans (by decide +kernel))
    · exact congrArg Value.string ((HF.out.2 9 (by decide)).trans (by decide +kernel))
    · exact congrArg Value.string ((HF.out.2 10 (by decide)).trans (by decide +kernel))
    · exact congrArg Value.string ((HF.out.2 11 (by decide)).trans (by decide +kernel))
    · exact congrArg Value.string ((HF.out.2 12 (by decide)).trans (by decide +kernel))
    · exact congrArg Value.string ((HF.out.2 13 (by decide)).trans (by decide +kernel))
    · exact congrArg Value.string ((HF.out.2 14 (by decide)).trans (by decide +kernel))
    · exact congrArg Value.string ((HF.out.2 15 (by decide)).trans (by decide +kernel))
    · exact congrArg Value.string ((HF.out.2 16 (by decide)).trans (by decide +kernel))
    · exact congrArg Value.string ((HF.out.2 17 (by decide)).trans (by decide +kernel))
    · exact congrArg Value.string ((HF.out.2 18 (by decide)).trans (by decide +kernel))
    · exact congrArg Value.string ((HF.out.2 19 (by decide)).trans (by decide +kernel))
    · exact congrArg Value.string ((HF.out.2 20 (by decide)).trans (by decide +kernel))
    · exact congrArg Value.string ((HF.out.2 21 (by decide)).trans (by decide +kernel))
    · exact congrArg Value.string ((HF.out.2 22 (by decide)).trans (by decide +kernel))
    · exact congrArg Value.string ((HF.out.2 23 (by decide)).trans (by decide +kernel))
    · exact congrArg Value.string ((HF.out.2 24 (by decide)).trans (by decide +kernel))
    · exact congrArg Value.string ((HF.out.2 25 (by decide)).trans (by decide +kernel))
    · rfl
    · rfl
    · rfl
    · rfl)
  clear hrd
  go_wp2_with fail
  go_ret
  exact ⟨A3, _, c3, tb 0, rfl, Lib.hid HP.out.1, HB4.out, by omega, Lib.hid ⟨HP.out.2, fun j _ => rfl⟩, HFR⟩

set_option maxRecDepth 100000 in
set_option maxHeartbeats 3200000 in
theorem azTable1 (w : World) :
    Calls Tryz.prog 47 #[.int .i64 1] w (StrPost 32 (tb 1) w) := by
  go_enter Tryz.func47, Tryz.ntmps47
  go_wp2_with fail
  refine (azOne _ (by decide) _).mono ?_
  rintro e w1 ⟨A1, m, c1, f, rfl, HR, hb1, hm, HF, _⟩
  have hown := (World.ownsRow_lit (base := w.heap.size) (e := 9) (size := 1) w #[.string ⟨#[]⟩, .string ⟨#[32]⟩] 2 (Nat.le_refl _) (by decide) rfl)
  have hown1 := own_below hown hb1
  have hb1' := (below_lit (w := w) #[.string ⟨#[]⟩, .string ⟨#[32]⟩] 9).trans (hb1.mono (by simp))
  have HO := Lib.hid hown1
  have HB := Lib.hid hb1'
  clear hown hown1 hb1 hb1'
  go_wp2_with (at_builtin; refine wpList_copyTo _ _ 99 w.heap.size 9 (.string ⟨#[]⟩) 16 _ 2 _ _ m _ _ rfl rfl rfl rfl Tryz.underlying99 Tryz.infoStr rfl (fun j _ => rfl) (by decide) HO.out HR.out (by omega) HB.out.size ?_)
  intro v' w2 hown2 hg2 hb2
  have hb2' := HB.out.trans hb2
  have hb3 : Below w.heap.size w (w2.alloc (.cells #[.string ⟨#[]⟩, .string ⟨#[]⟩, .string ⟨#[]⟩, .string ⟨#[]⟩] 9)) := hb2'.alloc hb2'.size _
  have hrz := rd_lit4 w2 9 4 ⟨#[]⟩ #[.string ⟨#[]⟩, .string ⟨#[]⟩, .string ⟨#[]⟩, .string ⟨#[]⟩] rfl (fun j hj => by
    have : j = 0 ∨ j = 1 ∨ j = 2 ∨ j = 3 := by omega
    rcases this with rfl | rfl | rfl | rfl <;> rfl)
  have HO2 := Lib.hid (hown2.alloc (.cells #[.string ⟨#[]⟩, .string ⟨#[]⟩, .string ⟨#[]⟩, .string ⟨#[]⟩] 9))
  have HB3 := Lib.hid hb3
  have HRZ := Lib.hid hrz
  clear hown2 hg2 hb2 hb2' hb3 hrz HO HB HR
  go_wp2_with (at_builtin; refine wpList_copyTo _ _ 99 w.heap.size 9 (.string ⟨#[]⟩) 16 _ (2 + m) _ _ 4 _ _ rfl rfl rfl rfl Tryz.underlying99 Tryz.infoStr rfl (fun j _ => rfl) (by decide) HO2.out HRZ.out (by omega) HB3.out.size ?_)
  intro v3 w3 hown3 hg3 hb3
  have HB4 := Lib.hid (HB3.out.trans hb3)
  have HO3 := Lib.hid hown3
  clear hown3 hg3 hb3 HB3 HO2 HRZ
  obtain ⟨A3, c3, hv3, _, _, hrd⟩ := Rd.of_own HO3.out
  have HFR : Hid (∀ a, A3 = some a → w.heap.size ≤ a.block) := Lib.hid (own_fresh HO3.out hv3)
  subst hv3
  have hmm : m = 26 := HF.out.1.trans (by decide)
  have HP : Hid (Rd w3 A3 (2 + m + 4) (fun j => .string (tb 1 j)) ∧ 2 + m + 4 = 32) := Lib.hid (by
    rw [hmm] at hrd
    rw [hmm]
    refine ⟨hrd.congr fun j hj => ?_, rfl⟩
    have h5 : j = 0 ∨ j = 1 ∨ j = 2 ∨ j = 3 ∨ j = 4 ∨ j = 5 ∨ j = 6 ∨ j = 7 ∨ j = 8 ∨ j = 9 ∨ j = 10 ∨ j = 11 ∨ j = 12 ∨ j = 13 ∨ j = 14 ∨ j = 15 ∨ j = 16 ∨ j = 17 ∨ j = 18 ∨ j = 19 ∨ j = 20 ∨ j = 21 ∨ j = 22 ∨ j = 23 ∨ j = 24 ∨ j = 25 ∨ j = 26 ∨ j = 27 ∨ j = 28 ∨ j = 29 ∨ j = 30 ∨ j = 31 := by omega
    rcases h5 with rfl | rfl | rfl | rfl | rfl | rfl | rfl | rfl | rfl | rfl | rfl | rfl | rfl | rfl | rfl | rfl | rfl | rfl | rfl | rfl | rfl | rfl | rfl | rfl | rfl | rfl | rfl | rfl | rfl | rfl | rfl | rfl
    · rfl
    · rfl
    · exact congrArg Value.string ((HF.out.2 0 (by decide)).trans (by decide +kernel))
    · exact congrArg Value.string ((HF.out.2 1 (by decide)).trans (by decide +kernel))
    · exact congrArg Value.string ((HF.out.2 2 (by decide)).trans (by decide +kernel))
    · exact congrArg Value.string ((HF.out.2 3 (by decide)).trans (by decide +kernel))
    · exact congrArg Value.string ((HF.out.2 4 (by decide)).trans (by decide +kernel))
    · exact congrArg Value.string ((HF.out.2 5 (by decide)).trans (by decide +kernel))
    · exact congrArg Value.string ((HF.out.2 6 (by decide)).trans (by decide +kernel))
    · exact congrArg Value.string ((HF.out.2 7 (by decide)).trans (by decide +kernel))
    · exact congrArg Value.string ((HF.out.2 8 (by decide)).trans (by decide +kernel))
    · exact congrArg Value.string ((HF.out.2 9 (by decide)).trans (by decide +kernel))
    · exact congrArg Value.string ((HF.out.2 10 (by decide)).trans (by decide +kernel))
    · exact congrArg Value.string ((HF.out.2 11 (by decide)).trans (by decide +kernel))
    · exact congrArg Value.string ((HF.out.2 12 (by decide)).trans (by decide +kernel))
    · exact congrArg Value.string ((HF.out.2 13 (by decide)).trans (by decide +kernel))
    · exact congrArg Value.string ((HF.out.2 14 (by decide)).trans (by decide +kernel))
    · exact congrArg Value.string ((HF.out.2 15 (by decide)).trans (by decide +kernel))
    · exact congrArg Value.string ((HF.out.2 16 (by decide)).trans (by decide +kernel))
    · exact congrArg Value.string ((HF.out.2 17 (by decide)).trans (by decide +kernel))
    · exact congrArg Value.string ((HF.out.2 18 (by decide)).trans (by decide +kernel))
    · exact congrArg Value.string ((HF.out.2 19 (by decide)).trans (by decide +kernel))
    · exact congrArg Value.string ((HF.out.2 20 (by decide)).trans (by decide +kernel))
    · exact congrArg Value.string ((HF.out.2 21 (by decide)).trans (by decide +kernel))
    · exact congrArg Value.string ((HF.out.2 22 (by decide)).trans (by decide +kernel))
    · exact congrArg Value.string ((HF.out.2 23 (by decide)).trans (by decide +kernel))
    · exact congrArg Value.string ((HF.out.2 24 (by decide)).trans (by decide +kernel))
    · exact congrArg Value.string ((HF.out.2 25 (by decide)).trans (by decide +kernel))
    · rfl
    · rfl
    · rfl
    · rfl)
  clear hrd
  go_wp2_with fail
  go_ret
  exact ⟨A3, _, c3, tb 1, rfl, Lib.hid HP.out.1, HB4.out, by omega, Lib.hid ⟨HP.out.2, fun j _ => rfl⟩, HFR⟩

set_option maxRecDepth 100000 in
set_option maxHeartbeats 3200000 in
theorem azTable2 (w : World) :
    Calls Tryz.prog 47 #[.int .i64 2] w (StrPost 32 (tb 2) w) := by
  go_enter Tryz.func47, Tryz.ntmps47
  go_wp2_with fail
  refine (azOne _ (by decide) _).mono ?_
  rintro e w1 ⟨A1, m, c1, f, rfl, HR, hb1, hm, HF, _⟩
  have hown := (World.ownsRow_lit (base := w.heap.size) (e := 9) (size := 1) w #[.string ⟨#[]⟩, .string ⟨#[32]⟩] 2 (Nat.le_refl _) (by decide) rfl)
  have hown1 := own_below hown hb1
  have hb1' := (below_lit (w := w) #[.string ⟨#[]⟩, .string ⟨#[32]⟩] 9).trans (hb1.mono (by simp))
  have HO := Lib.hid hown1
  have HB := Lib.hid hb1'
  clear hown hown1 hb1 hb1'
  go_wp2_with (at_builtin; refine wpList_copyTo _ _ 99 w.heap.size 9 (.string ⟨#[]⟩) 16 _ 2 _ _ m _ _ rfl rfl rfl rfl Tryz.underlying99 Tryz.infoStr rfl (fun j _ => rfl) (by decide) HO.out HR.out (by omega) HB.out.size ?_)
  intro v' w2 hown2 hg2 hb2
  have hb2' := HB.out.trans hb2
  have hb3 : Below w.heap.size w (w2.alloc (.cells #[.string ⟨#[]⟩, .string ⟨#[]⟩, .string ⟨#[]⟩, .string ⟨#[]⟩] 9)) := hb2'.alloc hb2'.size _
  have hrz := rd_lit4 w2 9 4 ⟨#[]⟩ #[.string ⟨#[]⟩, .string ⟨#[]⟩, .string ⟨#[]⟩, .string ⟨#[]⟩] rfl (fun j hj => by
    have : j = 0 ∨ j = 1 ∨ j = 2 ∨ j = 3 := by omega
    rcases this with rfl | rfl | rfl | rfl <;> rfl)
  have HO2 := Lib.hid (hown2.alloc (.cells #[.string ⟨#[]⟩, .string ⟨#[]⟩, .string ⟨#[]⟩, .string ⟨#[]⟩] 9))
  have HB3 := Lib.hid hb3
  have HRZ := Lib.hid hrz
  clear hown2 hg2 hb2 hb2' hb3 hrz HO HB HR
  go_wp2_with (at_builtin; refine wpList_copyTo _ _ 99 w.heap.size 9 (.string ⟨#[]⟩) 16 _ (2 + m) _ _ 4 _ _ rfl rfl rfl rfl Tryz.underlying99 Tryz.infoStr rfl (fun j _ => rfl) (by decide) HO2.out HRZ.out (by omega) HB3.out.size ?_)
  intro v3 w3 hown3 hg3 hb3
  have HB4 := Lib.hid (HB3.out.trans hb3)
  have HO3 := Lib.hid hown3
  clear hown3 hg3 hb3 HB3 HO2 HRZ
  obtain ⟨A3, c3, hv3, _, _, hrd⟩ := Rd.of_own HO3.out
  have HFR : Hid (∀ a, A3 = some a → w.heap.size ≤ a.block) := Lib.hid (own_fresh HO3.out hv3)
  subst hv3
  have hmm : m = 26 := HF.out.1.trans (by decide)
  have HP : Hid (Rd w3 A3 (2 + m + 4) (fun j => .string (tb 2 j)) ∧ 2 + m + 4 = 32) := Lib.hid (by
    rw [hmm] at hrd
    rw [hmm]
    refine ⟨hrd.congr fun j hj => ?_, rfl⟩
    have h5 : j = 0 ∨ j = 1 ∨ j = 2 ∨ j = 3 ∨ j = 4 ∨ j = 5 ∨ j = 6 ∨ j = 7 ∨ j = 8 ∨ j = 9 ∨ j = 10 ∨ j = 11 ∨ j = 12 ∨ j = 13 ∨ j = 14 ∨ j = 15 ∨ j = 16 ∨ j = 17 ∨ j = 18 ∨ j = 19 ∨ j = 20 ∨ j = 21 ∨ j = 22 ∨ j = 23 ∨ j = 24 ∨ j = 25 ∨ j = 26 ∨ j = 27 ∨ j = 28 ∨ j = 29 ∨ j = 30 ∨ j = 31 := by omega
    rcases h5 with rfl | rfl | rfl | rfl | rfl | rfl | rfl | rfl | rfl | rfl | rfl | rfl | rfl | rfl | rfl | rfl | rfl | rfl | rfl | rfl | rfl | rfl | rfl | rfl | rfl | rfl | rfl | rfl | rfl | rfl | rfl | rfl
    · rfl
    · rfl
    · exact congrArg Value.string ((HF.out.2 0 (by decide)).trans (by decide +kernel))
    · exact congrArg Value.string ((HF.out.2 1 (by decide)).trans (by decide +kernel))
    · exact congrArg Value.string ((HF.out.2 2 (by decide)).trans (by decide +kernel))
    · exact congrArg Value.string ((HF.out.2 3 (by decide)).trans (by decide +kernel))
    · exact congrArg Value.string ((HF.out.2 4 (by decide)).trans (by decide +kernel))
    · exact congrArg Value.string ((HF.out.2 5 (by decide)).trans (by decide +kernel))
    · exact congrArg Value.string ((HF.out.2 6 (by decide)).trans (by decide +kernel))
    · exact congrArg Value.string ((HF.out.2 7 (by decide)).trans (by decide +kernel))
    · exact congrArg Value.string ((HF.out.2 8 (by decide)).trans (by decide +kernel))
    · exact congrArg Value.string ((HF.out.2 9 (by decide)).trans (by decide +kernel))
    · exact congrArg Value.string ((HF.out.2 10 (by decide)).trans (by decide +kernel))
    · exact congrArg Value.string ((HF.out.2 11 (by decide)).trans (by decide +kernel))
    · exact congrArg Value.string ((HF.out.2 12 (by decide)).trans (by decide +kernel))
    · exact congrArg Value.string ((HF.out.2 13 (by decide)).trans (by decide +kernel))
    · exact congrArg Value.string ((HF.out.2 14 (by decide)).trans (by decide +kernel))
    · exact congrArg Value.string ((HF.out.2 15 (by decide)).trans (by decide +kernel))
    · exact congrArg Value.string ((HF.out.2 16 (by decide)).trans (by decide +kernel))
    · exact congrArg Value.string ((HF.out.2 17 (by decide)).trans (by decide +kernel))
    · exact congrArg Value.string ((HF.out.2 18 (by decide)).trans (by decide +kernel))
    · exact congrArg Value.string ((HF.out.2 19 (by decide)).trans (by decide +kernel))
    · exact congrArg Value.string ((HF.out.2 20 (by decide)).trans (by decide +kernel))
    · exact congrArg Value.string ((HF.out.2 21 (by decide)).trans (by decide +kernel))
    · exact congrArg Value.string ((HF.out.2 22 (by decide)).trans (by decide +kernel))
    · exact congrArg Value.string ((HF.out.2 23 (by decide)).trans (by decide +kernel))
    · exact congrArg Value.string ((HF.out.2 24 (by decide)).trans (by decide +kernel))
    · exact congrArg Value.string ((HF.out.2 25 (by decide)).trans (by decide +kernel))
    · rfl
    · rfl
    · rfl
    · rfl)
  clear hrd
  go_wp2_with fail
  go_ret
  exact ⟨A3, _, c3, tb 2, rfl, Lib.hid HP.out.1, HB4.out, by omega, Lib.hid ⟨HP.out.2, fun j _ => rfl⟩, HFR⟩

set_option maxRecDepth 100000 in
set_option maxHeartbeats 3200000 in
theorem azTable3 (w : World) :
    Calls Tryz.prog 47 #[.int .i64 3] w (StrPost 32 (tb 3) w) := by
  go_enter Tryz.func47, Tryz.ntmps47
  go_wp2_with fail
  refine (azOne _ (by decide) _).mono ?_
  rintro e w1 ⟨A1, m, c1, f, rfl, HR, hb1, hm, HF, _⟩
  have hown := (World.ownsRow_lit (base := w.heap.size) (e := 9) (size := 1) w #[.string ⟨#[]⟩, .string ⟨#[13]⟩, .string ⟨#[13, 10]⟩, .string ⟨#[46, 32]⟩, .string ⟨#[44, 32]⟩, .string ⟨#[58, 32]⟩] 6 (Nat.le_refl _) (by decide) rfl)
  have hown1 := own_below hown hb1
  have hb1' := (below_lit (w := w) #[.string ⟨#[]⟩, .string ⟨#[13]⟩, .string ⟨#[13, 10]⟩, .string ⟨#[46, 32]⟩, .string ⟨#[44, 32]⟩, .string ⟨#[58, 32]⟩] 9).trans (hb1.mono (by simp))
  have HO := Lib.hid hown1
  have HB := Lib.hid hb1'
  clear hown hown1 hb1 hb1'
  go_wp2_with (at_builtin; refine wpList_copyTo _ _ 99 w.heap.size 9 (.string ⟨#[]⟩) 16 _ 6 _ _ m _ _ rfl rfl rfl rfl Tryz.underlying99 Tryz.infoStr rfl (fun j _ => rfl) (by decide) HO.out HR.out (by omega) HB.out.size ?_)
  intro v' w2 hown2 hg2 hb2
  have hb2' := HB.out.trans hb2
  have hb3 : Below w.heap.size w (w2.alloc (.cells #[.string ⟨#[]⟩] 9)) := hb2'.alloc hb2'.size _
  have hrz := rd_lit4 w2 9 1 ⟨#[]⟩ #[.string ⟨#[]⟩] rfl (fun j hj => by
    have : j = 0 := by omega
    subst this; rfl)
  have HO2 := Lib.hid (hown2.alloc (.cells #[.string ⟨#[]⟩] 9))
  have HB3 := Lib.hid hb3
  have HRZ := Lib.hid hrz
  clear hown2 hg2 hb2 hb2' hb3 hrz HO HB HR
  go_wp2_with (at_builtin; refine wpList_copyTo _ _ 99 w.heap.size 9 (.string ⟨#[]⟩) 16 _ (6 + m) _ _ 1 _ _ rfl rfl rfl rfl Tryz.underlying99 Tryz.infoStr rfl (fun j _ => rfl) (by decide) HO2.out HRZ.out (by omega) HB3.out.size ?_)
  intro v3 w3 hown3 hg3 hb3
  have HB4 := Lib.hid (HB3.out.trans hb3)
  have HO3 := Lib.hid hown3
  clear hown3 hg3 hb3 HB3 HO2 HRZ
  obtain ⟨A3, c3, hv3, _, _, hrd⟩ := Rd.of_own HO3.out
  have HFR : Hid (∀ a, A3 = some a → w.heap.size ≤ a.block) := Lib.hid (own_fresh HO3.out hv3)
  subst hv3
  have hmm : m = 25 := HF.out.1.trans (by decide)
  have HP : Hid (Rd w3 A3 (6 + m + 1) (fun j => .string (tb 3 j)) ∧ 6 + m + 1 = 32) := Lib.hid (by
    rw [hmm] at hrd
    rw [hmm]
    refine ⟨hrd.congr fun j hj => ?_, rfl⟩
    have h5 : j = 0 ∨ j = 1 ∨ j = 2 ∨ j = 3 ∨ j = 4 ∨ j = 5 ∨ j = 6 ∨ j = 7 ∨ j = 8 ∨ j = 9 ∨ j = 10 ∨ j = 11 ∨ j = 12 ∨ j = 13 ∨ j = 14 ∨ j = 15 ∨ j = 16 ∨ j = 17 ∨ j = 18 ∨ j = 19 ∨ j = 20 ∨ j = 21 ∨ j = 22 ∨ j = 23 ∨ j = 24 ∨ j = 25 ∨ j = 26 ∨ j = 27 ∨ j = 28 ∨ j = 29 ∨ j = 30 ∨ j = 31 := by omega
    rcases h5 with rfl | rfl | rfl | rfl | rfl | rfl | rfl | rfl | rfl | rfl | rfl | rfl | rfl | rfl | rfl | rfl | rfl | rfl | rfl | rfl | rfl | rfl | rfl | rfl | rfl | rfl | rfl | rfl | rfl | rfl | rfl | rfl
    · rfl
    · rfl
    · rfl
    · rfl
    · rfl
    · rfl
    · exact congrArg Value.string ((HF.out.2 0 (by decide)).trans (by decide +kernel))
    · exact congrArg Value.string ((HF.out.2 1 (by decide)).trans (by decide +kernel))
    · exact congrArg Value.string ((HF.out.2 2 (by decide)).trans (by decide +kernel))
    · exact congrArg Value.string ((HF.out.2 3 (by decide)).trans (by decide +kernel))
    · exact congrArg Value.string ((HF.out.2 4 (by decide)).trans (by decide +kernel))
    · exact congrArg Value.string ((HF.out.2 5 (by decide)).trans (by decide +kernel))
    · exact congrArg Value.string ((HF.out.2 6 (by decide)).trans (by decide +kernel))
    · exact congrArg Value.string ((HF.out.2 7 (by decide)).trans (by decide +kernel))
    · exact congrArg Value.string ((HF.out.2 8 (by decide)).trans (by decide +kernel))
    · exact congrArg Value.string ((HF.out.2 9 (by decide)).trans (by decide +kernel))
    · exact congrArg Value.string ((HF.out.2 10 (by decide)).trans (by decide +kernel))
    · exact congrArg Value.string ((HF.out.2 11 (by decide)).trans (by decide +kernel))
    · exact congrArg Value.string ((HF.out.2 12 (by decide)).trans (by decide +kernel))
    · exact congrArg Value.string ((HF.out.2 13 (by decide)).trans (by decide +kernel))
    · exact congrArg Value.string ((HF.out.2 14 (by decide)).trans (by decide +kernel))
    · exact congrArg Value.string ((HF.out.2 15 (by decide)).trans (by decide +kernel))
    · exact congrArg Value.string ((HF.out.2 16 (by decide)).trans (by decide +kernel))
    · exact congrArg Value.string ((HF.out.2 17 (by decide)).trans (by decide +kernel))
    · exact congrArg Value.string ((HF.out.2 18 (by decide)).trans (by decide +kernel))
    · exact congrArg Value.string ((HF.out.2 19 (by decide)).trans (by decide +kernel))
    · exact congrArg Value.string ((HF.out.2 20 (by decide)).trans (by decide +kernel))
    · exact congrArg Value.string ((HF.out.2 21 (by decide)).trans (by decide +kernel))
    · exact congrArg Value.string ((HF.out.2 22 (by decide)).trans (by decide +kernel))
    · exact congrArg Value.string ((HF.out.2 23 (by decide)).trans (by decide +kernel))
    · exact congrArg Value.string ((HF.out.2 24 (by decide)).trans (by decide +kernel))
    · rfl)
  clear hrd
  go_wp2_with fail
  go_ret
  exact ⟨A3, _, c3, tb 3, rfl, Lib.hid HP.out.1, HB4.out, by omega, Lib.hid ⟨HP.out.2, fun j _ => rfl⟩, HFR⟩

set_option maxRecDepth 100000 in
set_option maxHeartbeats 3200000 in
theorem azTable4 (w : World) :
    Calls Tryz.prog 47 #[.int .i64 4] w (StrPost 16 (tb 4) w) := by
  go_enter Tryz.func47, Tryz.ntmps47
  go_wp2_with fail
  refine (azOne _ (by decide) _).mono ?_
  rintro e w1 ⟨A1, m, c1, f, rfl, HR, hb1, hm, HF, _⟩
  have hown := (World.ownsRow_lit (base := w.heap.size) (e := 9) (size := 1) w #[.string ⟨#[]⟩, .string ⟨#[32]⟩] 2 (Nat.le_refl _) (by decide) rfl)
  have hown1 := own_below hown hb1
  have hb1' := (below_lit (w := w) #[.string ⟨#[]⟩, .string ⟨#[32]⟩] 9).trans (hb1.mono (by simp))
  have HO := Lib.hid hown1
  have HB := Lib.hid hb1'
  clear hown hown1 hb1 hb1'
  go_wp2_with (at_builtin; refine wpList_copyTo _ _ 99 w.heap.size 9 (.string ⟨#[]⟩) 16 _ 2 _ _ m _ _ rfl rfl rfl rfl Tryz.underlying99 Tryz.infoStr rfl (fun j _ => rfl) (by decide) HO.out HR.out (by omega) HB.out.size ?_)
  intro v' w2 hown2 hg2 hb2
  have hb2' := HB.out.trans hb2
  have hb3 : Below w.heap.size w (w2.alloc (.cells #[.string ⟨#[]⟩, .string ⟨#[]⟩] 9)) := hb2'.alloc hb2'.size _
  have hrz := rd_lit4 w2 9 2 ⟨#[]⟩ #[.string ⟨#[]⟩, .string ⟨#[]⟩] rfl (fun j hj => by
    have : j = 0 ∨ j = 1 := by omega
    rcases this with rfl | rfl <;> rfl)
  have HO2 := Lib.hid (hown2.alloc (.cells #[.string ⟨#[]⟩, .string ⟨#[]⟩] 9))
  have HB3 := Lib.hid hb3
  have HRZ := Lib.hid hrz
  clear hown2 hg2 hb2 hb2' hb3 hrz HO HB HR
  go_wp2_with (at_builtin; refine wpList_copyTo _ _ 99 w.heap.size 9 (.string ⟨#[]⟩) 16 _ (2 + m) _ _ 2 _ _ rfl rfl rfl rfl Tryz.underlying99 Tryz.infoStr rfl (fun j _ => rfl) (by decide) HO2.out HRZ.out (by omega) HB3.out.size ?_)
  intro v3 w3 hown3 hg3 hb3
  have HB4 := Lib.hid (HB3.out.trans hb3)
  have HO3 := Lib.hid hown3
  clear hown3 hg3 hb3 HB3 HO2 HRZ
  obtain ⟨A3, c3, hv3, _, _, hrd⟩ := Rd.of_own HO3.out
  have HFR : Hid (∀ a, A3 = some a → w.heap.size ≤ a.block) := Lib.hid (own_fresh HO3.out hv3)
  subst hv3
  have hmm : m = 12 := HF.out.1.trans (by decide)
  have HP : Hid (Rd w3 A3 (2 + m + 2) (fun j => .string (tb 4 j)) ∧ 2 + m + 2 = 16) := Lib.hid (by
    rw [hmm] at hrd
    rw [hmm]
    refine ⟨hrd.congr fun j hj => ?_, rfl⟩
    have h5 : j = 0 ∨ j = 1 ∨ j = 2 ∨ j = 3 ∨ j = 4 ∨ j = 5 ∨ j = 6 ∨ j = 7 ∨ j = 8 ∨ j = 9 ∨ j = 10 ∨ j = 11 ∨ j = 12 ∨ j = 13 ∨ j = 14 ∨ j = 15 := by omega
    rcases h5 with rfl | rfl | rfl | rfl | rfl | rfl | rfl | rfl | rfl | rfl | rfl | rfl | rfl | rfl | rfl | rfl
    · rfl
    · rfl
    · exact congrArg Value.string ((HF.out.2 0 (by decide)).trans (by decide +kernel))
    · exact congrArg Value.string ((HF.out.2 1 (by decide)).trans (by decide +kernel))
    · exact congrArg Value.string ((HF.out.2 2 (by decide)).trans (by decide +kernel))
    · exact congrArg Value.string ((HF.out.2 3 (by decide)).trans (by decide +kernel))
    · exact congrArg Value.string ((HF.out.2 4 (by decide)).trans (by decide +kernel))
    · exact congrArg Value.string ((HF.out.2 5 (by decide)).trans (by decide +kernel))
    · exact congrArg Value.string ((HF.out.2 6 (by decide)).trans (by decide +kernel))
    · exact congrArg Value.string ((HF.out.2 7 (by decide)).trans (by decide +kernel))
    · exact congrArg Value.string ((HF.out.2 8 (by decide)).trans (by decide +kernel))
    · exact congrArg Value.string ((HF.out.2 9 (by decide)).trans (by decide +kernel))
    · exact congrArg Value.string ((HF.out.2 10 (by decide)).trans (by decide +kernel))
    · exact congrArg Value.string ((HF.out.2 11 (by decide)).trans (by decide +kernel))
    · rfl
    · rfl)
  clear hrd
  go_wp2_with fail
  go_ret
  exact ⟨A3, _, c3, tb 4, rfl, Lib.hid HP.out.1, HB4.out, by omega, Lib.hid ⟨HP.out.2, fun j _ => rfl⟩, HFR⟩
end Go.Proofs.YtiielblnmfeapaaGreatDoor
