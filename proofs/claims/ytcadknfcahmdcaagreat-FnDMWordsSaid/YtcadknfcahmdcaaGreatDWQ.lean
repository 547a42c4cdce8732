/-
  The encoders' single bytes, walked (printed by genDWQ.py). No condition beyond the bounds that each theorem states.
-/
import Derived.Test.YtcadknfcahmdcaaGreatDWP
import Derived.Test.YtcadknfcahmdcaaGreatDWE
namespace Go.Proofs.YtcadknfcahmdcaaGreat
open Go.RowKit Go.Qz
set_option linter.unusedVariables false

theorem grew_trans {w w1 w2 : World} {v v1 v2 : Value} {base n : Nat} {e : TypeId} {xs : List Value} (h : Grew w w1 v v1) (ho : Off w base e v n xs) (k : Grew w1 w2 v1 v2) : Grew w w2 v v2 := by
  obtain ⟨g, off, cap, _, hob, hlt, _⟩ := ho.block
  refine ⟨h.1.then k.1 fun i hi hh => ?_, ?_⟩
  · rcases h.2 with h2 | ⟨b, h2, h3⟩
    · rw [← h2]; exact hh
    · rw [h2] at hh; injection hh with hh; omega
  · rcases k.2 with k2 | ⟨b, k2, k3⟩
    · rw [k2]; exact h.2
    · exact .inr ⟨b, k2, Nat.le_trans h.1.size k3⟩
/-- Behind a byte's encoding: its values stand behind the others. -/
def EvPost (mode c : Nat) (xs : List Nat) (base : Nat) (v : Value) (w : World) (e : Ending) (w' : World) : Prop := ∃ v', e = .returned (.tuple #[.int .i64 (DV.ev mode c).length, v']) ∧ Hid (Off w' base 5 v' (xs ++ DV.ev mode c).length (bys (xs ++ DV.ev mode c))) ∧ Hid (Grew w w' v v')
def XvPost (f : Nat → Nat) (c : Nat) (xs : List Nat) (base : Nat) (v : Value) (w : World) (e : Ending) (w' : World) : Prop := ∃ v', e = .returned (.tuple #[v', .nilIface]) ∧ Hid (Off w' base 5 v' (xs ++ [f c]).length (bys (xs ++ [f c]))) ∧ Hid (Grew w w' v v')
set_option maxRecDepth 100000 in
set_option maxHeartbeats 3200000 in
theorem c40Char (c : Nat) (hc : c < 128) (xs : List Nat) (hn : xs.length < 100000) (base : Nat) (v : Value) (w : World) (h : Off w base 5 v xs.length (bys xs)) (hbs : base ≤ w.heap.size) : Calls Tryz.prog 52 #[.int .u8 c, v] w (EvPost 1 c xs base v w) := by
  have HO := Lib.hid h
  have HBS := Lib.hid hbs
  clear h hbs
  have hcs0 : (0 ≤ c ∧ c ≤ 31) ∨ (32 ≤ c ∧ c ≤ 32) ∨ (33 ≤ c ∧ c ≤ 47) ∨ (48 ≤ c ∧ c ≤ 57) ∨ (58 ≤ c ∧ c ≤ 64) ∨ (65 ≤ c ∧ c ≤ 90) ∨ (91 ≤ c ∧ c ≤ 95) ∨ (96 ≤ c ∧ c ≤ 127) := by omega
  rcases hcs0 with ⟨hlo, hhi⟩ | ⟨hlo, hhi⟩ | ⟨hlo, hhi⟩ | ⟨hlo, hhi⟩ | ⟨hlo, hhi⟩ | ⟨hlo, hhi⟩ | ⟨hlo, hhi⟩ | ⟨hlo, hhi⟩
  · have hi0 : (c : Int) ≤ 31 := by omega
    have lo0 : (0 : Int) ≤ (c : Int) := by omega
    have d0 : ((c : Int) == 32) = false := by simp; omega
    have d1 : ((48 : Int) ≤ (c : Int)) = False := by simp; omega
    have d2 : decide ((c : Int) ≤ 57) = true := by simp; omega
    have d3 : ((65 : Int) ≤ (c : Int)) = False := by simp; omega
    have d4 : decide ((c : Int) ≤ 90) = true := by simp; omega
    have d5 : decide ((c : Int) < 32) = true := by simp; omega
    have d6 : decide ((c : Int) ≤ 47) = true := by simp; omega
    have d7 : decide ((c : Int) ≤ 64) = true := by simp; omega
    have d8 : decide ((c : Int) ≤ 95) = true := by simp; omega
    have d9 : decide ((c : Int) ≤ 127) = true := by simp; omega
    have HE : Hid (DV.ev 1 c = [0, c]) := Lib.hid (by unfold DV.ev; (repeat (first | rw [if_pos (by omega)] | rw [if_neg (by omega)])); try simp; try (first | omega | (subst hx2 hx1; rfl) | (subst hx1; rfl)))
    clear hlo hhi lo0 hi0
    go_enter Tryz.func52, Tryz.ntmps52
    go_wp2_with (at_builtin; refine wpList_pushL _ _ 24 base 5 (.int .u8 0) 1 v xs.length (bys xs) (.int .u8 0) rfl rfl rfl rfl Tryz.underlying24 Tryz.infoBy rfl rfl (by decide) HO.out (by omega) HBS.out ?_)
    intro v1 w1 ho1 hg1
    have HO1 := Lib.hid ho1
    have HG1 := Lib.hid hg1
    have HBS1 : Hid (base ≤ w1.heap.size) := Lib.hid (Nat.le_trans HBS.out hg1.1.size)
    clear ho1 hg1
    go_wp2_with (at_builtin; refine wpList_pushL _ _ 24 base 5 (.int .u8 0) 1 v1 (xs.length + 1) (bys xs ++ [.int .u8 0]) (.int .u8 c) rfl rfl rfl rfl Tryz.underlying24 Tryz.infoBy rfl rfl (by decide) HO1.out (by omega) HBS1.out ?_)
    intro v2 w2 ho2 hg2
    have HO2 : Hid (Off w2 base 5 v2 (xs ++ DV.ev 1 c).length (bys (xs ++ DV.ev 1 c))) := Lib.hid (by rw [HE.out, bys_append, List.length_append]; (try rw [List.append_assoc] at ho2); exact ho2)
    have HG2 : Hid (Grew w w2 v v2) := Lib.hid (grew_trans HG1.out HO.out hg2)
    clear ho2 hg2 HO1 HG1 HBS1
    go_wp2_with fail
    go_ret2
    exact ⟨v2, by rw [HE.out]; rfl, HO2, HG2⟩
  · obtain rfl : c = 32 := by omega
    have HE : Hid (DV.ev 1 32 = [3]) := Lib.hid (by unfold DV.ev; (repeat (first | rw [if_pos (by omega)] | rw [if_neg (by omega)])); try simp; try (first | omega | (subst hx2 hx1; rfl) | (subst hx1; rfl)))
    clear hlo hhi
    go_enter Tryz.func52, Tryz.ntmps52
    go_wp2_with (at_builtin; refine wpList_pushL _ _ 24 base 5 (.int .u8 0) 1 v xs.length (bys xs) (.int .u8 3) rfl rfl rfl rfl Tryz.underlying24 Tryz.infoBy rfl rfl (by decide) HO.out (by omega) HBS.out ?_)
    intro v2 w2 ho2 hg2
    have HO2 : Hid (Off w2 base 5 v2 (xs ++ DV.ev 1 32).length (bys (xs ++ DV.ev 1 32))) := Lib.hid (by rw [HE.out, bys_append, List.length_append]; exact ho2)
    have HG2 := Lib.hid hg2
    clear ho2 hg2
    go_wp2_with fail
    go_ret2
    exact ⟨v2, by rw [HE.out]; rfl, HO2, HG2⟩
  · have hi0 : (c : Int) ≤ 47 := by omega
    have lo0 : (33 : Int) ≤ (c : Int) := by omega
    have d0 : ((c : Int) == 32) = false := by simp; omega
    have d1 : ((48 : Int) ≤ (c : Int)) = False := by simp; omega
    have d2 : decide ((c : Int) ≤ 57) = true := by simp; omega
    have d3 : ((65 : Int) ≤ (c : Int)) = False := by simp; omega
    have d4 : decide ((c : Int) ≤ 90) = true := by simp; omega
    have d5 : ((c : Int) < 32) = False := by simp; omega
    have d6 : decide ((c : Int) ≤ 47) = true := by simp; omega
    have d7 : decide ((c : Int) ≤ 64) = true := by simp; omega
    have d8 : decide ((c : Int) ≤ 95) = true := by simp; omega
    have d9 : decide ((c : Int) ≤ 127) = true := by simp; omega
    obtain ⟨x1, hx1⟩ : ∃ x1, x1 = c - 33 := ⟨_, rfl⟩
    have w1 : IntKind.u8.wrap ((c : Int) - 33) = (x1 : Int) := by rw [IntKind.wrap_u8]; omega
    have HE : Hid (DV.ev 1 c = [1, x1]) := Lib.hid (by unfold DV.ev; (repeat (first | rw [if_pos (by omega)] | rw [if_neg (by omega)])); try simp; try (first | omega | (subst hx2 hx1; rfl) | (subst hx1; rfl)))
    clear hlo hhi lo0 hi0 hx1
    go_enter Tryz.func52, Tryz.ntmps52
    go_wp2_with (at_builtin; refine wpList_pushL _ _ 24 base 5 (.int .u8 0) 1 v xs.length (bys xs) (.int .u8 1) rfl rfl rfl rfl Tryz.underlying24 Tryz.infoBy rfl rfl (by decide) HO.out (by omega) HBS.out ?_)
    intro v1 w1 ho1 hg1
    have HO1 := Lib.hid ho1
    have HG1 := Lib.hid hg1
    have HBS1 : Hid (base ≤ w1.heap.size) := Lib.hid (Nat.le_trans HBS.out hg1.1.size)
    clear ho1 hg1
    go_wp2_with (at_builtin; refine wpList_pushL _ _ 24 base 5 (.int .u8 0) 1 v1 (xs.length + 1) (bys xs ++ [.int .u8 1]) (.int .u8 x1) rfl rfl rfl rfl Tryz.underlying24 Tryz.infoBy rfl rfl (by decide) HO1.out (by omega) HBS1.out ?_)
    intro v2 w2 ho2 hg2
    have HO2 : Hid (Off w2 base 5 v2 (xs ++ DV.ev 1 c).length (bys (xs ++ DV.ev 1 c))) := Lib.hid (by rw [HE.out, bys_append, List.length_append]; (try rw [List.append_assoc] at ho2); exact ho2)
    have HG2 : Hid (Grew w w2 v v2) := Lib.hid (grew_trans HG1.out HO.out hg2)
    clear ho2 hg2 HO1 HG1 HBS1
    go_wp2_with fail
    go_ret2
    exact ⟨v2, by rw [HE.out]; rfl, HO2, HG2⟩
  · have hi0 : (c : Int) ≤ 57 := by omega
    have lo0 : (48 : Int) ≤ (c : Int) := by omega
    have d0 : ((c : Int) == 32) = false := by simp; omega
    have d1 : decide ((48 : Int) ≤ (c : Int)) = true := by simp; omega
    have d2 : decide ((c : Int) ≤ 57) = true := by simp; omega
    have d3 : ((65 : Int) ≤ (c : Int)) = False := by simp; omega
    have d4 : decide ((c : Int) ≤ 90) = true := by simp; omega
    have d5 : ((c : Int) < 32) = False := by simp; omega
    have d6 : ((c : Int) ≤ 47) = False := by simp; omega
    have d7 : decide ((c : Int) ≤ 64) = true := by simp; omega
    have d8 : decide ((c : Int) ≤ 95) = true := by simp; omega
    have d9 : decide ((c : Int) ≤ 127) = true := by simp; omega
    obtain ⟨x1, hx1⟩ : ∃ x1, x1 = c - 48 := ⟨_, rfl⟩
    have w1 : IntKind.u8.wrap ((c : Int) - 48) = (x1 : Int) := by rw [IntKind.wrap_u8]; omega
    obtain ⟨x2, hx2⟩ : ∃ x2, x2 = x1 + 4 := ⟨_, rfl⟩
    have w2 : IntKind.u8.wrap ((x1 : Int) + 4) = (x2 : Int) := by rw [IntKind.wrap_u8]; omega
    have HE : Hid (DV.ev 1 c = [x2]) := Lib.hid (by unfold DV.ev; (repeat (first | rw [if_pos (by omega)] | rw [if_neg (by omega)])); try simp; try (first | omega | (subst hx2 hx1; rfl) | (subst hx1; rfl)))
    clear hlo hhi lo0 hi0 hx1 hx2
    go_enter Tryz.func52, Tryz.ntmps52
    go_wp2_with (at_builtin; refine wpList_pushL _ _ 24 base 5 (.int .u8 0) 1 v xs.length (bys xs) (.int .u8 x2) rfl rfl rfl rfl Tryz.underlying24 Tryz.infoBy rfl rfl (by decide) HO.out (by omega) HBS.out ?_)
    intro v2 w2 ho2 hg2
    have HO2 : Hid (Off w2 base 5 v2 (xs ++ DV.ev 1 c).length (bys (xs ++ DV.ev 1 c))) := Lib.hid (by rw [HE.out, bys_append, List.length_append]; exact ho2)
    have HG2 := Lib.hid hg2
    clear ho2 hg2
    go_wp2_with fail
    go_ret2
    exact ⟨v2, by rw [HE.out]; rfl, HO2, HG2⟩
  · have hi0 : (c : Int) ≤ 64 := by omega
    have lo0 : (58 : Int) ≤ (c : Int) := by omega
    have d0 : ((c : Int) == 32) = false := by simp; omega
    have d1 : decide ((48 : Int) ≤ (c : Int)) = true := by simp; omega
    have d2 : ((c : Int) ≤ 57) = False := by simp; omega
    have d3 : ((65 : Int) ≤ (c : Int)) = False := by simp; omega
    have d4 : decide ((c : Int) ≤ 90) = true := by simp; omega
    have d5 : ((c : Int) < 32) = False := by simp; omega
    have d6 : ((c : Int) ≤ 47) = False := by simp; omega
    have d7 : decide ((c : Int) ≤ 64) = true := by simp; omega
    have d8 : decide ((c : Int) ≤ 95) = true := by simp; omega
    have d9 : decide ((c : Int) ≤ 127) = true := by simp; omega
    obtain ⟨x1, hx1⟩ : ∃ x1, x1 = c - 58 := ⟨_, rfl⟩
    have w1 : IntKind.u8.wrap ((c : Int) - 58) = (x1 : Int) := by rw [IntKind.wrap_u8]; omega
    obtain ⟨x2, hx2⟩ : ∃ x2, x2 = x1 + 15 := ⟨_, rfl⟩
    have w2 : IntKind.u8.wrap ((x1 : Int) + 15) = (x2 : Int) := by rw [IntKind.wrap_u8]; omega
    have HE : Hid (DV.ev 1 c = [1, x2]) := Lib.hid (by unfold DV.ev; (repeat (first | rw [if_pos (by omega)] | rw [if_neg (by omega)])); try simp; try (first | omega | (subst hx2 hx1; rfl) | (subst hx1; rfl)))
    clear hlo hhi lo0 hi0 hx1 hx2
    go_enter Tryz.func52, Tryz.ntmps52
    go_wp2_with (at_builtin; refine wpList_pushL _ _ 24 base 5 (.int .u8 0) 1 v xs.length (bys xs) (.int .u8 1) rfl rfl rfl rfl Tryz.underlying24 Tryz.infoBy rfl rfl (by decide) HO.out (by omega) HBS.out ?_)
    intro v1 w1 ho1 hg1
    have HO1 := Lib.hid ho1
    have HG1 := Lib.hid hg1
    have HBS1 : Hid (base ≤ w1.heap.size) := Lib.hid (Nat.le_trans HBS.out hg1.1.size)
    clear ho1 hg1
    go_wp2_with (at_builtin; refine wpList_pushL _ _ 24 base 5 (.int .u8 0) 1 v1 (xs.length + 1) (bys xs ++ [.int .u8 1]) (.int .u8 x2) rfl rfl rfl rfl Tryz.underlying24 Tryz.infoBy rfl rfl (by decide) HO1.out (by omega) HBS1.out ?_)
    intro v2 w2 ho2 hg2
    have HO2 : Hid (Off w2 base 5 v2 (xs ++ DV.ev 1 c).length (bys (xs ++ DV.ev 1 c))) := Lib.hid (by rw [HE.out, bys_append, List.length_append]; (try rw [List.append_assoc] at ho2); exact ho2)
    have HG2 : Hid (Grew w w2 v v2) := Lib.hid (grew_trans HG1.out HO.out hg2)
    clear ho2 hg2 HO1 HG1 HBS1
    go_wp2_with fail
    go_ret2
    exact ⟨v2, by rw [HE.out]; rfl, HO2, HG2⟩
  · have hi0 : (c : Int) ≤ 90 := by omega
    have lo0 : (65 : Int) ≤ (c : Int) := by omega
    have d0 : ((c : Int) == 32) = false := by simp; omega
    have d1 : decide ((48 : Int) ≤ (c : Int)) = true := by simp; omega
    have d2 : ((c : Int) ≤ 57) = False := by simp; omega
    have d3 : decide ((65 : Int) ≤ (c : Int)) = true := by simp; omega
    have d4 : decide ((c : Int) ≤ 90) = true := by simp; omega
    have d5 : ((c : Int) < 32) = False := by simp; omega
    have d6 : ((c : Int) ≤ 47) = False := by simp; omega
    have d7 : ((c : Int) ≤ 64) = False := by simp; omega
    have d8 : decide ((c : Int) ≤ 95) = true := by simp; omega
    have d9 : decide ((c : Int) ≤ 127) = true := by simp; omega
    obtain ⟨x1, hx1⟩ : ∃ x1, x1 = c - 65 := ⟨_, rfl⟩
    have w1 : IntKind.u8.wrap ((c : Int) - 65) = (x1 : Int) := by rw [IntKind.wrap_u8]; omega
    obtain ⟨x2, hx2⟩ : ∃ x2, x2 = x1 + 14 := ⟨_, rfl⟩
    have w2 : IntKind.u8.wrap ((x1 : Int) + 14) = (x2 : Int) := by rw [IntKind.wrap_u8]; omega
    have HE : Hid (DV.ev 1 c = [x2]) := Lib.hid (by unfold DV.ev; (repeat (first | rw [if_pos (by omega)] | rw [if_neg (by omega)])); try simp; try (first | omega | (subst hx2 hx1; rfl) | (subst hx1; rfl)))
    clear hlo hhi lo0 hi0 hx1 hx2
    go_enter Tryz.func52, Tryz.ntmps52
    go_wp2_with (at_builtin; refine wpList_pushL _ _ 24 base 5 (.int .u8 0) 1 v xs.length (bys xs) (.int .u8 x2) rfl rfl rfl rfl Tryz.underlying24 Tryz.infoBy rfl rfl (by decide) HO.out (by omega) HBS.out ?_)
    intro v2 w2 ho2 hg2
    have HO2 : Hid (Off w2 base 5 v2 (xs ++ DV.ev 1 c).length (bys (xs ++ DV.ev 1 c))) := Lib.hid (by rw [HE.out, bys_append, List.length_append]; exact ho2)
    have HG2 := Lib.hid hg2
    clear ho2 hg2
    go_wp2_with fail
    go_ret2
    exact ⟨v2, by rw [HE.out]; rfl, HO2, HG2⟩
  · have hi0 : (c : Int) ≤ 95 := by omega
    have lo0 : (91 : Int) ≤ (c : Int) := by omega
    have d0 : ((c : Int) == 32) = false := by simp; omega
    have d1 : decide ((48 : Int) ≤ (c : Int)) = true := by simp; omega
    have d2 : ((c : Int) ≤ 57) = False := by simp; omega
    have d3 : decide ((65 : Int) ≤ (c : Int)) = true := by simp; omega
    have d4 : ((c : Int) ≤ 90) = False := by simp; omega
    have d5 : ((c : Int) < 32) = False := by simp; omega
    have d6 : ((c : Int) ≤ 47) = False := by simp; omega
    have d7 : ((c : Int) ≤ 64) = False := by simp; omega
    have d8 : decide ((c : Int) ≤ 95) = true := by simp; omega
    have d9 : decide ((c : Int) ≤ 127) = true := by simp; omega
    obtain ⟨x1, hx1⟩ : ∃ x1, x1 = c - 91 := ⟨_, rfl⟩
    have w1 : IntKind.u8.wrap ((c : Int) - 91) = (x1 : Int) := by rw [IntKind.wrap_u8]; omega
    obtain ⟨x2, hx2⟩ : ∃ x2, x2 = x1 + 22 := ⟨_, rfl⟩
    have w2 : IntKind.u8.wrap ((x1 : Int) + 22) = (x2 : Int) := by rw [IntKind.wrap_u8]; omega
    have HE : Hid (DV.ev 1 c = [1, x2]) := Lib.hid (by unfold DV.ev; (repeat (first | rw [if_pos (by omega)] | rw [if_neg (by omega)])); try simp; try (first | omega | (subst hx2 hx1; rfl) | (subst hx1; rfl)))
    clear hlo hhi lo0 hi0 hx1 hx2
    go_enter Tryz.func52, Tryz.ntmps52
    go_wp2_with (at_builtin; refine wpList_pushL _ _ 24 base 5 (.int .u8 0) 1 v xs.length (bys xs) (.int .u8 1) rfl rfl rfl rfl Tryz.underlying24 Tryz.infoBy rfl rfl (by decide) HO.out (by omega) HBS.out ?_)
    intro v1 w1 ho1 hg1
    have HO1 := Lib.hid ho1
    have HG1 := Lib.hid hg1
    have HBS1 : Hid (base ≤ w1.heap.size) := Lib.hid (Nat.le_trans HBS.out hg1.1.size)
    clear ho1 hg1
    go_wp2_with (at_builtin; refine wpList_pushL _ _ 24 base 5 (.int .u8 0) 1 v1 (xs.length + 1) (bys xs ++ [.int .u8 1]) (.int .u8 x2) rfl rfl rfl rfl Tryz.underlying24 Tryz.infoBy rfl rfl (by decide) HO1.out (by omega) HBS1.out ?_)
    intro v2 w2 ho2 hg2
    have HO2 : Hid (Off w2 base 5 v2 (xs ++ DV.ev 1 c).length (bys (xs ++ DV.ev 1 c))) := Lib.hid (by rw [HE.out, bys_append, List.length_append]; (try rw [List.append_assoc] at ho2); exact ho2)
    have HG2 : Hid (Grew w w2 v v2) := Lib.hid (grew_trans HG1.out HO.out hg2)
    clear ho2 hg2 HO1 HG1 HBS1
    go_wp2_with fail
    go_ret2
    exact ⟨v2, by rw [HE.out]; rfl, HO2, HG2⟩
  · have hi0 : (c : Int) ≤ 127 := by omega
    have lo0 : (96 : Int) ≤ (c : Int) := by omega
    have d0 : ((c : Int) == 32) = false := by simp; omega
    have d1 : decide ((48 : Int) ≤ (c : Int)) = true := by simp; omega
    have d2 : ((c : Int) ≤ 57) = False := by simp; omega
    have d3 : decide ((65 : Int) ≤ (c : Int)) = true := by simp; omega
    have d4 : ((c : Int) ≤ 90) = False := by simp; omega
    have d5 : ((c : Int) < 32) = False := by simp; omega
    have d6 : ((c : Int) ≤ 47) = False := by simp; omega
    have d7 : ((c : Int) ≤ 64) = False := by simp; omega
    have d8 : ((c : Int) ≤ 95) = False := by simp; omega
    have d9 : decide ((c : Int) ≤ 127) = true := by simp; omega
    obtain ⟨x1, hx1⟩ : ∃ x1, x1 = c - 96 := ⟨_, rfl⟩
    have w1 : IntKind.u8.wrap ((c : Int) - 96) = (x1 : Int) := by rw [IntKind.wrap_u8]; omega
    have HE : Hid (DV.ev 1 c = [2, x1]) := Lib.hid (by unfold DV.ev; (repeat (first | rw [if_pos (by omega)] | rw [if_neg (by omega)])); try simp; try (first | omega | (subst hx2 hx1; rfl) | (subst hx1; rfl)))
    clear hlo hhi lo0 hi0 hx1
    go_enter Tryz.func52, Tryz.ntmps52
    go_wp2_with (at_builtin; refine wpList_pushL _ _ 24 base 5 (.int .u8 0) 1 v xs.length (bys xs) (.int .u8 2) rfl rfl rfl rfl Tryz.underlying24 Tryz.infoBy rfl rfl (by decide) HO.out (by omega) HBS.out ?_)
    intro v1 w1 ho1 hg1
    have HO1 := Lib.hid ho1
    have HG1 := Lib.hid hg1
    have HBS1 : Hid (base ≤ w1.heap.size) := Lib.hid (Nat.le_trans HBS.out hg1.1.size)
    clear ho1 hg1
    go_wp2_with (at_builtin; refine wpList_pushL _ _ 24 base 5 (.int .u8 0) 1 v1 (xs.length + 1) (bys xs ++ [.int .u8 2]) (.int .u8 x1) rfl rfl rfl rfl Tryz.underlying24 Tryz.infoBy rfl rfl (by decide) HO1.out (by omega) HBS1.out ?_)
    intro v2 w2 ho2 hg2
    have HO2 : Hid (Off w2 base 5 v2 (xs ++ DV.ev 1 c).length (bys (xs ++ DV.ev 1 c))) := Lib.hid (by rw [HE.out, bys_append, List.length_append]; (try rw [List.append_assoc] at ho2); exact ho2)
    have HG2 : Hid (Grew w w2 v v2) := Lib.hid (grew_trans HG1.out HO.out hg2)
    clear ho2 hg2 HO1 HG1 HBS1
    go_wp2_with fail
    go_ret2
    exact ⟨v2, by rw [HE.out]; rfl, HO2, HG2⟩
set_option maxRecDepth 100000 in
set_option maxHeartbeats 3200000 in
theorem textChar (c : Nat) (hc : c < 128) (xs : List Nat) (hn : xs.length < 100000) (base : Nat) (v : Value) (w : World) (h : Off w base 5 v xs.length (bys xs)) (hbs : base ≤ w.heap.size) : Calls Tryz.prog 53 #[.int .u8 c, v] w (EvPost 2 c xs base v w) := by
  have HO := Lib.hid h
  have HBS := Lib.hid hbs
  clear h hbs
  have hcs0 : (0 ≤ c ∧ c ≤ 31) ∨ (32 ≤ c ∧ c ≤ 32) ∨ (33 ≤ c ∧ c ≤ 47) ∨ (48 ≤ c ∧ c ≤ 57) ∨ (58 ≤ c ∧ c ≤ 64) ∨ (65 ≤ c ∧ c ≤ 90) ∨ (91 ≤ c ∧ c ≤ 95) ∨ (96 ≤ c ∧ c ≤ 96) ∨ (97 ≤ c ∧ c ≤ 122) ∨ (123 ≤ c ∧ c ≤ 127) := by omega
  rcases hcs0 with ⟨hlo, hhi⟩ | ⟨hlo, hhi⟩ | ⟨hlo, hhi⟩ | ⟨hlo, hhi⟩ | ⟨hlo, hhi⟩ | ⟨hlo, hhi⟩ | ⟨hlo, hhi⟩ | ⟨hlo, hhi⟩ | ⟨hlo, hhi⟩ | ⟨hlo, hhi⟩
  · have hi0 : (c : Int) ≤ 31 := by omega
    have lo0 : (0 : Int) ≤ (c : Int) := by omega
    have d0 : ((c : Int) == 32) = false := by simp; omega
    have d1 : ((48 : Int) ≤ (c : Int)) = False := by simp; omega
    have d2 : decide ((c : Int) ≤ 57) = true := by simp; omega
    have d3 : ((97 : Int) ≤ (c : Int)) = False := by simp; omega
    have d4 : decide ((c : Int) ≤ 122) = true := by simp; omega
    have d5 : decide ((c : Int) < 32) = true := by simp; omega
    have d6 : decide ((c : Int) ≤ 47) = true := by simp; omega
    have d7 : decide ((c : Int) ≤ 64) = true := by simp; omega
    have d8 : ((91 : Int) ≤ (c : Int)) = False := by simp; omega
    have d9 : decide ((c : Int) ≤ 95) = true := by simp; omega
    have d10 : ((c : Int) == 96) = false := by simp; omega
    have d11 : decide ((c : Int) ≤ 90) = true := by simp; omega
    have d12 : decide ((c : Int) ≤ 127) = true := by simp; omega
    have HE : Hid (DV.ev 2 c = [0, c]) := Lib.hid (by unfold DV.ev; (repeat (first | rw [if_pos (by omega)] | rw [if_neg (by omega)])); try simp; try (first | omega | (subst hx2 hx1; rfl) | (subst hx1; rfl)))
    clear hlo hhi lo0 hi0
    go_enter Tryz.func53, Tryz.ntmps53
    go_wp2_with (at_builtin; refine wpList_pushL _ _ 24 base 5 (.int .u8 0) 1 v xs.length (bys xs) (.int .u8 0) rfl rfl rfl rfl Tryz.underlying24 Tryz.infoBy rfl rfl (by decide) HO.out (by omega) HBS.out ?_)
    intro v1 w1 ho1 hg1
    have HO1 := Lib.hid ho1
    have HG1 := Lib.hid hg1
    have HBS1 : Hid (base ≤ w1.heap.size) := Lib.hid (Nat.le_trans HBS.out hg1.1.size)
    clear ho1 hg1
    go_wp2_with (at_builtin; refine wpList_pushL _ _ 24 base 5 (.int .u8 0) 1 v1 (xs.length + 1) (bys xs ++ [.int .u8 0]) (.int .u8 c) rfl rfl rfl rfl Tryz.underlying24 Tryz.infoBy rfl rfl (by decide) HO1.out (by omega) HBS1.out ?_)
    intro v2 w2 ho2 hg2
    have HO2 : Hid (Off w2 base 5 v2 (xs ++ DV.ev 2 c).length (bys (xs ++ DV.ev 2 c))) := Lib.hid (by rw [HE.out, bys_append, List.length_append]; (try rw [List.append_assoc] at ho2); exact ho2)
    have HG2 : Hid (Grew w w2 v v2) := Lib.hid (grew_trans HG1.out HO.out hg2)
    clear ho2 hg2 HO1 HG1 HBS1
    go_wp2_with fail
    go_ret2
    exact ⟨v2, by rw [HE.out]; rfl, HO2, HG2⟩
  · obtain rfl : c = 32 := by omega
    have HE : Hid (DV.ev 2 32 = [3]) := Lib.hid (by unfold DV.ev; (repeat (first | rw [if_pos (by omega)] | rw [if_neg (by omega)])); try simp; try (first | omega | (subst hx2 hx1; rfl) | (subst hx1; rfl)))
    clear hlo hhi
    go_enter Tryz.func53, Tryz.ntmps53
    go_wp2_with (at_builtin; refine wpList_pushL _ _ 24 base 5 (.int .u8 0) 1 v xs.length (bys xs) (.int .u8 3) rfl rfl rfl rfl Tryz.underlying24 Tryz.infoBy rfl rfl (by decide) HO.out (by omega) HBS.out ?_)
    intro v2 w2 ho2 hg2
    have HO2 : Hid (Off w2 base 5 v2 (xs ++ DV.ev 2 32).length (bys (xs ++ DV.ev 2 32))) := Lib.hid (by rw [HE.out, bys_append, List.length_append]; exact ho2)
    have HG2 := Lib.hid hg2
    clear ho2 hg2
    go_wp2_with fail
    go_ret2
    exact ⟨v2, by rw [HE.out]; rfl, HO2, HG2⟩
  · have hi0 : (c : Int) ≤ 47 := by omega
    have lo0 : (33 : Int) ≤ (c : Int) := by omega
    have d0 : ((c : Int) == 32) = false := by simp; omega
    have d1 : ((48 : Int) ≤ (c : Int)) = False := by simp; omega
    have d2 : decide ((c : Int) ≤ 57) = true := by simp; omega
    have d3 : ((97 : Int) ≤ (c : Int)) = False := by simp; omega
    have d4 : decide ((c : Int) ≤ 122) = true := by simp; omega
    have d5 : ((c : Int) < 32) = False := by simp; omega
    have d6 : decide ((c : Int) ≤ 47) = true := by simp; omega
    have d7 : decide ((c : Int) ≤ 64) = true := by simp; omega
    have d8 : ((91 : Int) ≤ (c : Int)) = False := by simp; omega
    have d9 : decide ((c : Int) ≤ 95) = true := by simp; omega
    have d10 : ((c : Int) == 96) = false := by simp; omega
    have d11 : decide ((c : Int) ≤ 90) = true := by simp; omega
    have d12 : decide ((c : Int) ≤ 127) = true := by simp; omega
    obtain ⟨x1, hx1⟩ : ∃ x1, x1 = c - 33 := ⟨_, rfl⟩
    have w1 : IntKind.u8.wrap ((c : Int) - 33) = (x1 : Int) := by rw [IntKind.wrap_u8]; omega
    have HE : Hid (DV.ev 2 c = [1, x1]) := Lib.hid (by unfold DV.ev; (repeat (first | rw [if_pos (by omega)] | rw [if_neg (by omega)])); try simp; try (first | omega | (subst hx2 hx1; rfl) | (subst hx1; rfl)))
    clear hlo hhi lo0 hi0 hx1
    go_enter Tryz.func53, Tryz.ntmps53
    go_wp2_with (at_builtin; refine wpList_pushL _ _ 24 base 5 (.int .u8 0) 1 v xs.length (bys xs) (.int .u8 1) rfl rfl rfl rfl Tryz.underlying24 Tryz.infoBy rfl rfl (by decide) HO.out (by omega) HBS.out ?_)
    intro v1 w1 ho1 hg1
    have HO1 := Lib.hid ho1
    have HG1 := Lib.hid hg1
    have HBS1 : Hid (base ≤ w1.heap.size) := Lib.hid (Nat.le_trans HBS.out hg1.1.size)
    clear ho1 hg1
    go_wp2_with (at_builtin; refine wpList_pushL _ _ 24 base 5 (.int .u8 0) 1 v1 (xs.length + 1) (bys xs ++ [.int .u8 1]) (.int .u8 x1) rfl rfl rfl rfl Tryz.underlying24 Tryz.infoBy rfl rfl (by decide) HO1.out (by omega) HBS1.out ?_)
    intro v2 w2 ho2 hg2
    have HO2 : Hid (Off w2 base 5 v2 (xs ++ DV.ev 2 c).length (bys (xs ++ DV.ev 2 c))) := Lib.hid (by rw [HE.out, bys_append, List.length_append]; (try rw [List.append_assoc] at ho2); exact ho2)
    have HG2 : Hid (Grew w w2 v v2) := Lib.hid (grew_trans HG1.out HO.out hg2)
    clear ho2 hg2 HO1 HG1 HBS1
    go_wp2_with fail
    go_ret2
    exact ⟨v2, by rw [HE.out]; rfl, HO2, HG2⟩
  · have hi0 : (c : Int) ≤ 57 := by omega
    have lo0 : (48 : Int) ≤ (c : Int) := by omega
    have d0 : ((c : Int) == 32) = false := by simp; omega
    have d1 : decide ((48 : Int) ≤ (c : Int)) = true := by simp; omega
    have d2 : decide ((c : Int) ≤ 57) = true := by simp; omega
    have d3 : ((97 : Int) ≤ (c : Int)) = False := by simp; omega
    have d4 : decide ((c : Int) ≤ 122) = true := by simp; omega
    have d5 : ((c : Int) < 32) = False := by simp; omega
    have d6 : ((c : Int) ≤ 47) = False := by simp; omega
    have d7 : decide ((c : Int) ≤ 64) = true := by simp; omega
    have d8 : ((91 : Int) ≤ (c : Int)) = False := by simp; omega
    have d9 : decide ((c : Int) ≤ 95) = true := by simp; omega
    have d10 : ((c : Int) == 96) = false := by simp; omega
    have d11 : decide ((c : Int) ≤ 90) = true := by simp; omega
    have d12 : decide ((c : Int) ≤ 127) = true := by simp; omega
    obtain ⟨x1, hx1⟩ : ∃ x1, x1 = c - 48 := ⟨_, rfl⟩
    have w1 : IntKind.u8.wrap ((c : Int) - 48) = (x1 : Int) := by rw [IntKind.wrap_u8]; omega
    obtain ⟨x2, hx2⟩ : ∃ x2, x2 = x1 + 4 := ⟨_, rfl⟩
    have w2 : IntKind.u8.wrap ((x1 : Int) + 4) = (x2 : Int) := by rw [IntKind.wrap_u8]; omega
    have HE : Hid (DV.ev 2 c = [x2]) := Lib.hid (by unfold DV.ev; (repeat (first | rw [if_pos (by omega)] | rw [if_neg (by omega)])); try simp; try (first | omega | (subst hx2 hx1; rfl) | (subst hx1; rfl)))
    clear hlo hhi lo0 hi0 hx1 hx2
    go_enter Tryz.func53, Tryz.ntmps53
    go_wp2_with (at_builtin; refine wpList_pushL _ _ 24 base 5 (.int .u8 0) 1 v xs.length (bys xs) (.int .u8 x2) rfl rfl rfl rfl Tryz.underlying24 Tryz.infoBy rfl rfl (by decide) HO.out (by omega) HBS.out ?_)
    intro v2 w2 ho2 hg2
    have HO2 : Hid (Off w2 base 5 v2 (xs ++ DV.ev 2 c).length (bys (xs ++ DV.ev 2 c))) := Lib.hid (by rw [HE.out, bys_append, List.length_append]; exact ho2)
    have HG2 := Lib.hid hg2
    clear ho2 hg2
    go_wp2_with fail
    go_ret2
    exact ⟨v2, by rw [HE.out]; rfl, HO2, HG2⟩
  · have hi0 : (c : Int) ≤ 64 := by omega
    have lo0 : (58 : Int) ≤ (c : Int) := by omega
    have d0 : ((c : Int) == 32) = false := by simp; omega
    have d1 : decide ((48 : Int) ≤ (c : Int)) = true := by simp; omega
    have d2 : ((c : Int) ≤ 57) = False := by simp; omega
    have d3 : ((97 : Int) ≤ (c : Int)) = False := by simp; omega
    have d4 : decide ((c : Int) ≤ 122) = true := by simp; omega
    have d5 : ((c : Int) < 32) = False := by simp; omega
    have d6 : ((c : Int) ≤ 47) = False := by simp; omega
    have d7 : decide ((c : Int) ≤ 64) = true := by simp; omega
    have d8 : ((91 : Int) ≤ (c : Int)) = False := by simp; omega
    have d9 : decide ((c : Int) ≤ 95) = true := by simp; omega
    have d10 : ((c : Int) == 96) = false := by simp; omega
    have d11 : decide ((c : Int) ≤ 90) = true := by simp; omega
    have d12 : decide ((c : Int) ≤ 127) = true := by simp; omega
    obtain ⟨x1, hx1⟩ : ∃ x1, x1 = c - 58 := ⟨_, rfl⟩
    have w1 : IntKind.u8.wrap ((c : Int) - 58) = (x1 : Int) := by rw [IntKind.wrap_u8]; omega
    obtain ⟨x2, hx2⟩ : ∃ x2, x2 = x1 + 15 := ⟨_, rfl⟩
    have w2 : IntKind.u8.wrap ((x1 : Int) + 15) = (x2 : Int) := by rw [IntKind.wrap_u8]; omega
    have HE : Hid (DV.ev 2 c = [1, x2]) := Lib.hid (by unfold DV.ev; (repeat (first | rw [if_pos (by omega)] | rw [if_neg (by omega)])); try simp; try (first | omega | (subst hx2 hx1; rfl) | (subst hx1; rfl)))
    clear hlo hhi lo0 hi0 hx1 hx2
    go_enter Tryz.func53, Tryz.ntmps53
    go_wp2_with (at_builtin; refine wpList_pushL _ _ 24 base 5 (.int .u8 0) 1 v xs.length (bys xs) (.int .u8 1) rfl rfl rfl rfl Tryz.underlying24 Tryz.infoBy rfl rfl (by decide) HO.out (by omega) HBS.out ?_)
    intro v1 w1 ho1 hg1
    have HO1 := Lib.hid ho1
    have HG1 := Lib.hid hg1
    have HBS1 : Hid (base ≤ w1.heap.size) := Lib.hid (Nat.le_trans HBS.out hg1.1.size)
    clear ho1 hg1
    go_wp2_with (at_builtin; refine wpList_pushL _ _ 24 base 5 (.int .u8 0) 1 v1 (xs.length + 1) (bys xs ++ [.int .u8 1]) (.int .u8 x2) rfl rfl rfl rfl Tryz.underlying24 Tryz.infoBy rfl rfl (by decide) HO1.out (by omega) HBS1.out ?_)
    intro v2 w2 ho2 hg2
    have HO2 : Hid (Off w2 base 5 v2 (xs ++ DV.ev 2 c).length (bys (xs ++ DV.ev 2 c))) := Lib.hid (by rw [HE.out, bys_append, List.length_append]; (try rw [List.append_assoc] at ho2); exact ho2)
    have HG2 : Hid (Grew w w2 v v2) := Lib.hid (grew_trans HG1.out HO.out hg2)
    clear ho2 hg2 HO1 HG1 HBS1
    go_wp2_with fail
    go_ret2
    exact ⟨v2, by rw [HE.out]; rfl, HO2, HG2⟩
  · have hi0 : (c : Int) ≤ 90 := by omega
    have lo0 : (65 : Int) ≤ (c : Int) := by omega
    have d0 : ((c : Int) == 32) = false := by simp; omega
    have d1 : decide ((48 : Int) ≤ (c : Int)) = true := by simp; omega
    have d2 : ((c : Int) ≤ 57) = False := by simp; omega
    have d3 : ((97 : Int) ≤ (c : Int)) = False := by simp; omega
    have d4 : decide ((c : Int) ≤ 122) = true := by simp; omega
    have d5 : ((c : Int) < 32) = False := by simp; omega
    have d6 : ((c : Int) ≤ 47) = False := by simp; omega
    have d7 : ((c : Int) ≤ 64) = False := by simp; omega
    have d8 : ((91 : Int) ≤ (c : Int)) = False := by simp; omega
    have d9 : decide ((c : Int) ≤ 95) = true := by simp; omega
    have d10 : ((c : Int) == 96) = false := by simp; omega
    have d11 : decide ((c : Int) ≤ 90) = true := by simp; omega
    have d12 : decide ((c : Int) ≤ 127) = true := by simp; omega
    obtain ⟨x1, hx1⟩ : ∃ x1, x1 = c - 65 := ⟨_, rfl⟩
    have w1 : IntKind.u8.wrap ((c : Int) - 65) = (x1 : Int) := by rw [IntKind.wrap_u8]; omega
    obtain ⟨x2, hx2⟩ : ∃ x2, x2 = x1 + 1 := ⟨_, rfl⟩
    have w2 : IntKind.u8.wrap ((x1 : Int) + 1) = (x2 : Int) := by rw [IntKind.wrap_u8]; omega
    have HE : Hid (DV.ev 2 c = [2, x2]) := Lib.hid (by unfold DV.ev; (repeat (first | rw [if_pos (by omega)] | rw [if_neg (by omega)])); try simp; try (first | omega | (subst hx2 hx1; rfl) | (subst hx1; rfl)))
    clear hlo hhi lo0 hi0 hx1 hx2
    go_enter Tryz.func53, Tryz.ntmps53
    go_wp2_with (at_builtin; refine wpList_pushL _ _ 24 base 5 (.int .u8 0) 1 v xs.length (bys xs) (.int .u8 2) rfl rfl rfl rfl Tryz.underlying24 Tryz.infoBy rfl rfl (by decide) HO.out (by omega) HBS.out ?_)
    intro v1 w1 ho1 hg1
    have HO1 := Lib.hid ho1
    have HG1 := Lib.hid hg1
    have HBS1 : Hid (base ≤ w1.heap.size) := Lib.hid (Nat.le_trans HBS.out hg1.1.size)
    clear ho1 hg1
    go_wp2_with (at_builtin; refine wpList_pushL _ _ 24 base 5 (.int .u8 0) 1 v1 (xs.length + 1) (bys xs ++ [.int .u8 2]) (.int .u8 x2) rfl rfl rfl rfl Tryz.underlying24 Tryz.infoBy rfl rfl (by decide) HO1.out (by omega) HBS1.out ?_)
    intro v2 w2 ho2 hg2
    have HO2 : Hid (Off w2 base 5 v2 (xs ++ DV.ev 2 c).length (bys (xs ++ DV.ev 2 c))) := Lib.hid (by rw [HE.out, bys_append, List.length_append]; (try rw [List.append_assoc] at ho2); exact ho2)
    have HG2 : Hid (Grew w w2 v v2) := Lib.hid (grew_trans HG1.out HO.out hg2)
    clear ho2 hg2 HO1 HG1 HBS1
    go_wp2_with fail
    go_ret2
    exact ⟨v2, by rw [HE.out]; rfl, HO2, HG2⟩
  · have hi0 : (c : Int) ≤ 95 := by omega
    have lo0 : (91 : Int) ≤ (c : Int) := by omega
    have d0 : ((c : Int) == 32) = false := by simp; omega
    have d1 : decide ((48 : Int) ≤ (c : Int)) = true := by simp; omega
    have d2 : ((c : Int) ≤ 57) = False := by simp; omega
    have d3 : ((97 : Int) ≤ (c : Int)) = False := by simp; omega
    have d4 : decide ((c : Int) ≤ 122) = true := by simp; omega
    have d5 : ((c : Int) < 32) = False := by simp; omega
    have d6 : ((c : Int) ≤ 47) = False := by simp; omega
    have d7 : ((c : Int) ≤ 64) = False := by simp; omega
    have d8 : decide ((91 : Int) ≤ (c : Int)) = true := by simp; omega
    have d9 : decide ((c : Int) ≤ 95) = true := by simp; omega
    have d10 : ((c : Int) == 96) = false := by simp; omega
    have d11 : ((c : Int) ≤ 90) = False := by simp; omega
    have d12 : decide ((c : Int) ≤ 127) = true := by simp; omega
    obtain ⟨x1, hx1⟩ : ∃ x1, x1 = c - 91 := ⟨_, rfl⟩
    have w1 : IntKind.u8.wrap ((c : Int) - 91) = (x1 : Int) := by rw [IntKind.wrap_u8]; omega
    obtain ⟨x2, hx2⟩ : ∃ x2, x2 = x1 + 22 := ⟨_, rfl⟩
    have w2 : IntKind.u8.wrap ((x1 : Int) + 22) = (x2 : Int) := by rw [IntKind.wrap_u8]; omega
    have HE : Hid (DV.ev 2 c = [1, x2]) := Lib.hid (by unfold DV.ev; (repeat (first | rw [if_pos (by omega)] | rw [if_neg (by omega)])); try simp; try (first | omega | (subst hx2 hx1; rfl) | (subst hx1; rfl)))
    clear hlo hhi lo0 hi0 hx1 hx2
    go_enter Tryz.func53, Tryz.ntmps53
    go_wp2_with (at_builtin; refine wpList_pushL _ _ 24 base 5 (.int .u8 0) 1 v xs.length (bys xs) (.int .u8 1) rfl rfl rfl rfl Tryz.underlying24 Tryz.infoBy rfl rfl (by decide) HO.out (by omega) HBS.out ?_)
    intro v1 w1 ho1 hg1
    have HO1 := Lib.hid ho1
    have HG1 := Lib.hid hg1
    have HBS1 : Hid (base ≤ w1.heap.size) := Lib.hid (Nat.le_trans HBS.out hg1.1.size)
    clear ho1 hg1
    go_wp2_with (at_builtin; refine wpList_pushL _ _ 24 base 5 (.int .u8 0) 1 v1 (xs.length + 1) (bys xs ++ [.int .u8 1]) (.int .u8 x2) rfl rfl rfl rfl Tryz.underlying24 Tryz.infoBy rfl rfl (by decide) HO1.out (by omega) HBS1.out ?_)
    intro v2 w2 ho2 hg2
    have HO2 : Hid (Off w2 base 5 v2 (xs ++ DV.ev 2 c).length (bys (xs ++ DV.ev 2 c))) := Lib.hid (by rw [HE.out, bys_append, List.length_append]; (try rw [List.append_assoc] at ho2); exact ho2)
    have HG2 : Hid (Grew w w2 v v2) := Lib.hid (grew_trans HG1.out HO.out hg2)
    clear ho2 hg2 HO1 HG1 HBS1
    go_wp2_with fail
    go_ret2
    exact ⟨v2, by rw [HE.out]; rfl, HO2, HG2⟩
  · obtain rfl : c = 96 := by omega
    have HE : Hid (DV.ev 2 96 = [2, 0]) := Lib.hid (by unfold DV.ev; (repeat (first | rw [if_pos (by omega)] | rw [if_neg (by omega)])); try simp; try (first | omega | (subst hx2 hx1; rfl) | (subst hx1; rfl)))
    clear hlo hhi
    go_enter Tryz.func53, Tryz.ntmps53
    go_wp2_with (at_builtin; refine wpList_pushL _ _ 24 base 5 (.int .u8 0) 1 v xs.length (bys xs) (.int .u8 2) rfl rfl rfl rfl Tryz.underlying24 Tryz.infoBy rfl rfl (by decide) HO.out (by omega) HBS.out ?_)
    intro v1 w1 ho1 hg1
    have HO1 := Lib.hid ho1
    have HG1 := Lib.hid hg1
    have HBS1 : Hid (base ≤ w1.heap.size) := Lib.hid (Nat.le_trans HBS.out hg1.1.size)
    clear ho1 hg1
    go_wp2_with (at_builtin; refine wpList_pushL _ _ 24 base 5 (.int .u8 0) 1 v1 (xs.length + 1) (bys xs ++ [.int .u8 2]) (.int .u8 0) rfl rfl rfl rfl Tryz.underlying24 Tryz.infoBy rfl rfl (by decide) HO1.out (by omega) HBS1.out ?_)
    intro v2 w2 ho2 hg2
    have HO2 : Hid (Off w2 base 5 v2 (xs ++ DV.ev 2 96).length (bys (xs ++ DV.ev 2 96))) := Lib.hid (by rw [HE.out, bys_append, List.length_append]; (try rw [List.append_assoc] at ho2); exact ho2)
    have HG2 : Hid (Grew w w2 v v2) := Lib.hid (grew_trans HG1.out HO.out hg2)
    clear ho2 hg2 HO1 HG1 HBS1
    go_wp2_with fail
    go_ret2
    exact ⟨v2, by rw [HE.out]; rfl, HO2, HG2⟩
  · have hi0 : (c : Int) ≤ 122 := by omega
    have lo0 : (97 : Int) ≤ (c : Int) := by omega
    have d0 : ((c : Int) == 32) = false := by simp; omega
    have d1 : decide ((48 : Int) ≤ (c : Int)) = true := by simp; omega
    have d2 : ((c : Int) ≤ 57) = False := by simp; omega
    have d3 : decide ((97 : Int) ≤ (c : Int)) = true := by simp; omega
    have d4 : decide ((c : Int) ≤ 122) = true := by simp; omega
    have d5 : ((c : Int) < 32) = False := by simp; omega
    have d6 : ((c : Int) ≤ 47) = False := by simp; omega
    have d7 : ((c : Int) ≤ 64) = False := by simp; omega
    have d8 : decide ((91 : Int) ≤ (c : Int)) = true := by simp; omega
    have d9 : ((c : Int) ≤ 95) = False := by simp; omega
    have d10 : ((c : Int) == 96) = false := by simp; omega
    have d11 : ((c : Int) ≤ 90) = False := by simp; omega
    have d12 : decide ((c : Int) ≤ 127) = true := by simp; omega
    obtain ⟨x1, hx1⟩ : ∃ x1, x1 = c - 97 := ⟨_, rfl⟩
    have w1 : IntKind.u8.wrap ((c : Int) - 97) = (x1 : Int) := by rw [IntKind.wrap_u8]; omega
    obtain ⟨x2, hx2⟩ : ∃ x2, x2 = x1 + 14 := ⟨_, rfl⟩
    have w2 : IntKind.u8.wrap ((x1 : Int) + 14) = (x2 : Int) := by rw [IntKind.wrap_u8]; omega
    have HE : Hid (DV.ev 2 c = [x2]) := Lib.hid (by unfold DV.ev; (repeat (first | rw [if_pos (by omega)] | rw [if_neg (by omega)])); try simp; try (first | omega | (subst hx2 hx1; rfl) | (subst hx1; rfl)))
    clear hlo hhi lo0 hi0 hx1 hx2
    go_enter Tryz.func53, Tryz.ntmps53
    go_wp2_with (at_builtin; refine wpList_pushL _ _ 24 base 5 (.int .u8 0) 1 v xs.length (bys xs) (.int .u8 x2) rfl rfl rfl rfl Tryz.underlying24 Tryz.infoBy rfl rfl (by decide) HO.out (by omega) HBS.out ?_)
    intro v2 w2 ho2 hg2
    have HO2 : Hid (Off w2 base 5 v2 (xs ++ DV.ev 2 c).length (bys (xs ++ DV.ev 2 c))) := Lib.hid (by rw [HE.out, bys_append, List.length_append]; exact ho2)
    have HG2 := Lib.hid hg2
    clear ho2 hg2
    go_wp2_with fail
    go_ret2
    exact ⟨v2, by rw [HE.out]; rfl, HO2, HG2⟩
  · have hi0 : (c : Int) ≤ 127 := by omega
    have lo0 : (123 : Int) ≤ (c : Int) := by omega
    have d0 : ((c : Int) == 32) = false := by simp; omega
    have d1 : decide ((48 : Int) ≤ (c : Int)) = true := by simp; omega
    have d2 : ((c : Int) ≤ 57) = False := by simp; omega
    have d3 : decide ((97 : Int) ≤ (c : Int)) = true := by simp; omega
    have d4 : ((c : Int) ≤ 122) = False := by simp; omega
    have d5 : ((c : Int) < 32) = False := by simp; omega
    have d6 : ((c : Int) ≤ 47) = False := by simp; omega
    have d7 : ((c : Int) ≤ 64) = False := by simp; omega
    have d8 : decide ((91 : Int) ≤ (c : Int)) = true := by simp; omega
    have d9 : ((c : Int) ≤ 95) = False := by simp; omega
    have d10 : ((c : Int) == 96) = false := by simp; omega
    have d11 : ((c : Int) ≤ 90) = False := by simp; omega
    have d12 : decide ((c : Int) ≤ 127) = true := by simp; omega
    obtain ⟨x1, hx1⟩ : ∃ x1, x1 = c - 123 := ⟨_, rfl⟩
    have w1 : IntKind.u8.wrap ((c : Int) - 123) = (x1 : Int) := by rw [IntKind.wrap_u8]; omega
    obtain ⟨x2, hx2⟩ : ∃ x2, x2 = x1 + 27 := ⟨_, rfl⟩
    have w2 : IntKind.u8.wrap ((x1 : Int) + 27) = (x2 : Int) := by rw [IntKind.wrap_u8]; omega
    have HE : Hid (DV.ev 2 c = [2, x2]) := Lib.hid (by unfold DV.ev; (repeat (first | rw [if_pos (by omega)] | rw [if_neg (by omega)])); try simp; try (first | omega | (subst hx2 hx1; rfl) | (subst hx1; rfl)))
    clear hlo hhi lo0 hi0 hx1 hx2
    go_enter Tryz.func53, Tryz.ntmps53
    go_wp2_with (at_builtin; refine wpList_pushL _ _ 24 base 5 (.int .u8 0) 1 v xs.length (bys xs) (.int .u8 2) rfl rfl rfl rfl Tryz.underlying24 Tryz.infoBy rfl rfl (by decide) HO.out (by omega) HBS.out ?_)
    intro v1 w1 ho1 hg1
    have HO1 := Lib.hid ho1
    have HG1 := Lib.hid hg1
    have HBS1 : Hid (base ≤ w1.heap.size) := Lib.hid (Nat.le_trans HBS.out hg1.1.size)
    clear ho1 hg1
    go_wp2_with (at_builtin; refine wpList_pushL _ _ 24 base 5 (.int .u8 0) 1 v1 (xs.length + 1) (bys xs ++ [.int .u8 2]) (.int .u8 x2) rfl rfl rfl rfl Tryz.underlying24 Tryz.infoBy rfl rfl (by decide) HO1.out (by omega) HBS1.out ?_)
    intro v2 w2 ho2 hg2
    have HO2 : Hid (Off w2 base 5 v2 (xs ++ DV.ev 2 c).length (bys (xs ++ DV.ev 2 c))) := Lib.hid (by rw [HE.out, bys_append, List.length_append]; (try rw [List.append_assoc] at ho2); exact ho2)
    have HG2 : Hid (Grew w w2 v v2) := Lib.hid (grew_trans HG1.out HO.out hg2)
    clear ho2 hg2 HO1 HG1 HBS1
    go_wp2_with fail
    go_ret2
    exact ⟨v2, by rw [HE.out]; rfl, HO2, HG2⟩
set_option maxRecDepth 100000 in
set_option maxHeartbeats 3200000 in
theorem x12Char (c : Nat) (hx : DV.isX c = true) (xs : List Nat) (hn : xs.length < 100000) (base : Nat) (v : Value) (w : World) (h : Off w base 5 v xs.length (bys xs)) (hbs : base ≤ w.heap.size) : Calls Tryz.prog 143 #[.int .u8 c, v] w (XvPost DV.xv c xs base v w) := by
  have HO := Lib.hid h
  have HBS := Lib.hid hbs
  clear h hbs
  have hcs0 : (13 ≤ c ∧ c ≤ 13) ∨ (42 ≤ c ∧ c ≤ 42) ∨ (62 ≤ c ∧ c ≤ 62) ∨ (32 ≤ c ∧ c ≤ 32) ∨ (48 ≤ c ∧ c ≤ 57) ∨ (65 ≤ c ∧ c ≤ 90) := by unfold DV.isX at hx; simp at hx; omega
  clear hx
  rcases hcs0 with ⟨hlo, hhi⟩ | ⟨hlo, hhi⟩ | ⟨hlo, hhi⟩ | ⟨hlo, hhi⟩ | ⟨hlo, hhi⟩ | ⟨hlo, hhi⟩
  · obtain rfl : c = 13 := by omega
    have HE : Hid ([DV.xv 13] = [0]) := Lib.hid (by unfold DV.xv; (repeat (first | rw [if_pos (by omega)] | rw [if_neg (by omega)])); try simp; try (first | omega | (subst hx2 hx1; rfl) | (subst hx1; rfl)))
    clear hlo hhi
    go_enter Tryz.func143, Tryz.ntmps143
    go_wp2_with (at_builtin; refine wpList_pushL _ _ 24 base 5 (.int .u8 0) 1 v xs.length (bys xs) (.int .u8 0) rfl rfl rfl rfl Tryz.underlying24 Tryz.infoBy rfl rfl (by decide) HO.out (by omega) HBS.out ?_)
    intro v2 w2 ho2 hg2
    have HO2 : Hid (Off w2 base 5 v2 (xs ++ [DV.xv 13]).length (bys (xs ++ [DV.xv 13]))) := Lib.hid (by rw [HE.out, bys_append, List.length_append]; exact ho2)
    have HG2 := Lib.hid hg2
    clear ho2 hg2
    go_wp2_with fail
    go_ret2
    exact ⟨v2, rfl, HO2, HG2⟩
  · obtain rfl : c = 42 := by omega
    have HE : Hid ([DV.xv 42] = [1]) := Lib.hid (by unfold DV.xv; (repeat (first | rw [if_pos (by omega)] | rw [if_neg (by omega)])); try simp; try (first | omega | (subst hx2 hx1; rfl) | (subst hx1; rfl)))
    clear hlo hhi
    go_enter Tryz.func143, Tryz.ntmps143
    go_wp2_with (at_builtin; refine wpList_pushL _ _ 24 base 5 (.int .u8 0) 1 v xs.length (bys xs) (.int .u8 1) rfl rfl rfl rfl Tryz.underlying24 Tryz.infoBy rfl rfl (by decide) HO.out (by omega) HBS.out ?_)
    intro v2 w2 ho2 hg2
    have HO2 : Hid (Off w2 base 5 v2 (xs ++ [DV.xv 42]).length (bys (xs ++ [DV.xv 42]))) := Lib.hid (by rw [HE.out, bys_append, List.length_append]; exact ho2)
    have HG2 := Lib.hid hg2
    clear ho2 hg2
    go_wp2_with fail
    go_ret2
    exact ⟨v2, rfl, HO2, HG2⟩
  · obtain rfl : c = 62 := by omega
    have HE : Hid ([DV.xv 62] = [2]) := Lib.hid (by unfold DV.xv; (repeat (first | rw [if_pos (by omega)] | rw [if_neg (by omega)])); try simp; try (first | omega | (subst hx2 hx1; rfl) | (subst hx1; rfl)))
    clear hlo hhi
    go_enter Tryz.func143, Tryz.ntmps143
    go_wp2_with (at_builtin; refine wpList_pushL _ _ 24 base 5 (.int .u8 0) 1 v xs.length (bys xs) (.int .u8 2) rfl rfl rfl rfl Tryz.underlying24 Tryz.infoBy rfl rfl (by decide) HO.out (by omega) HBS.out ?_)
    intro v2 w2 ho2 hg2
    have HO2 : Hid (Off w2 base 5 v2 (xs ++ [DV.xv 62]).length (bys (xs ++ [DV.xv 62]))) := Lib.hid (by rw [HE.out, bys_append, List.length_append]; exact ho2)
    have HG2 := Lib.hid hg2
    clear ho2 hg2
    go_wp2_with fail
    go_ret2
    exact ⟨v2, rfl, HO2, HG2⟩
  · obtain rfl : c = 32 := by omega
    have HE : Hid ([DV.xv 32] = [3]) := Lib.hid (by unfold DV.xv; (repeat (first | rw [if_pos (by omega)] | rw [if_neg (by omega)])); try simp; try (first | omega | (subst hx2 hx1; rfl) | (subst hx1; rfl)))
    clear hlo hhi
    go_enter Tryz.func143, Tryz.ntmps143
    go_wp2_with (at_builtin; refine wpList_pushL _ _ 24 base 5 (.int .u8 0) 1 v xs.length (bys xs) (.int .u8 3) rfl rfl rfl rfl Tryz.underlying24 Tryz.infoBy rfl rfl (by decide) HO.out (by omega) HBS.out ?_)
    intro v2 w2 ho2 hg2
    have HO2 : Hid (Off w2 base 5 v2 (xs ++ [DV.xv 32]).length (bys (xs ++ [DV.xv 32]))) := Lib.hid (by rw [HE.out, bys_append, List.length_append]; exact ho2)
    have HG2 := Lib.hid hg2
    clear ho2 hg2
    go_wp2_with fail
    go_ret2
    exact ⟨v2, rfl, HO2, HG2⟩
  · have hi0 : (c : Int) ≤ 57 := by omega
    have lo0 : (48 : Int) ≤ (c : Int) := by omega
    have d0 : ((c : Int) == 13) = false := by simp; omega
    have d1 : ((c : Int) == 42) = false := by simp; omega
    have d2 : ((c : Int) == 62) = false := by simp; omega
    have d3 : ((c : Int) == 32) = false := by simp; omega
    have d4 : decide ((48 : Int) ≤ (c : Int)) = true := by simp; omega
    have d5 : decide ((c : Int) ≤ 57) = true := by simp; omega
    have d6 : ((65 : Int) ≤ (c : Int)) = False := by simp; omega
    have d7 : decide ((c : Int) ≤ 90) = true := by simp; omega
    obtain ⟨x1, hx1⟩ : ∃ x1, x1 = c - 48 := ⟨_, rfl⟩
    have w1 : IntKind.u8.wrap ((c : Int) - 48) = (x1 : Int) := by rw [IntKind.wrap_u8]; omega
    obtain ⟨x2, hx2⟩ : ∃ x2, x2 = x1 + 4 := ⟨_, rfl⟩
    have w2 : IntKind.u8.wrap ((x1 : Int) + 4) = (x2 : Int) := by rw [IntKind.wrap_u8]; omega
    have HE : Hid ([DV.xv c] = [x2]) := Lib.hid (by unfold DV.xv; (repeat (first | rw [if_pos (by omega)] | rw [if_neg (by omega)])); try simp; try (first | omega | (subst hx2 hx1; rfl) | (subst hx1; rfl)))
    clear hlo hhi lo0 hi0 hx1 hx2
    go_enter Tryz.func143, Tryz.ntmps143
    go_wp2_with (at_builtin; refine wpList_pushL _ _ 24 base 5 (.int .u8 0) 1 v xs.length (bys xs) (.int .u8 x2) rfl rfl rfl rfl Tryz.underlying24 Tryz.infoBy rfl rfl (by decide) HO.out (by omega) HBS.out ?_)
    intro v2 w2 ho2 hg2
    have HO2 : Hid (Off w2 base 5 v2 (xs ++ [DV.xv c]).length (bys (xs ++ [DV.xv c]))) := Lib.hid (by rw [HE.out, bys_append, List.length_append]; exact ho2)
    have HG2 := Lib.hid hg2
    clear ho2 hg2
    go_wp2_with fail
    go_ret2
    exact ⟨v2, rfl, HO2, HG2⟩
  · have hi0 : (c : Int) ≤ 90 := by omega
    have lo0 : (65 : Int) ≤ (c : Int) := by omega
    have d0 : ((c : Int) == 13) = false := by simp; omega
    have d1 : ((c : Int) == 42) = false := by simp; omega
    have d2 : ((c : Int) == 62) = false := by simp; omega
    have d3 : ((c : Int) == 32) = false := by simp; omega
    have d4 : decide ((48 : Int) ≤ (c : Int)) = true := by simp; omega
    have d5 : ((c : Int) ≤ 57) = False := by simp; omega
    have d6 : decide ((65 : Int) ≤ (c : Int)) = true := by simp; omega
    have d7 : decide ((c : Int) ≤ 90) = true := by simp; omega
    obtain ⟨x1, hx1⟩ : ∃ x1, x1 = c - 65 := ⟨_, rfl⟩
    have w1 : IntKind.u8.wrap ((c : Int) - 65) = (x1 : Int) := by rw [IntKind.wrap_u8]; omega
    obtain ⟨x2, hx2⟩ : ∃ x2, x2 = x1 + 14 := ⟨_, rfl⟩
    have w2 : IntKind.u8.wrap ((x1 : Int) + 14) = (x2 : Int) := by rw [IntKind.wrap_u8]; omega
    have HE : Hid ([DV.xv c] = [x2]) := Lib.hid (by unfold DV.xv; (repeat (first | rw [if_pos (by omega)] | rw [if_neg (by omega)])); try simp; try (first | omega | (subst hx2 hx1; rfl) | (subst hx1; rfl)))
    clear hlo hhi lo0 hi0 hx1 hx2
    go_enter Tryz.func143, Tryz.ntmps143
    go_wp2_with (at_builtin; refine wpList_pushL _ _ 24 base 5 (.int .u8 0) 1 v xs.length (bys xs) (.int .u8 x2) rfl rfl rfl rfl Tryz.underlying24 Tryz.infoBy rfl rfl (by decide) HO.out (by omega) HBS.out ?_)
    intro v2 w2 ho2 hg2
    have HO2 : Hid (Off w2 base 5 v2 (xs ++ [DV.xv c]).length (bys (xs ++ [DV.xv c]))) := Lib.hid (by rw [HE.out, bys_append, List.length_append]; exact ho2)
    have HG2 := Lib.hid hg2
    clear ho2 hg2
    go_wp2_with fail
    go_ret2
    exact ⟨v2, rfl, HO2, HG2⟩
set_option maxRecDepth 100000 in
set_option maxHeartbeats 3200000 in
theorem ediChar (c : Nat) (hx : DV.isE c = true) (xs : List Nat) (hn : xs.length < 100000) (base : Nat) (v : Value) (w : World) (h : Off w base 5 v xs.length (bys xs)) (hbs : base ≤ w.heap.size) : Calls Tryz.prog 148 #[.int .u8 c, v] w (XvPost DV.e6 c xs base v w) := by
  have HO := Lib.hid h
  have HBS := Lib.hid hbs
  clear h hbs
  have hcs0 : (32 ≤ c ∧ c ≤ 63) ∨ (64 ≤ c ∧ c ≤ 94) := by unfold DV.isE at hx; simp at hx; omega
  clear hx
  rcases hcs0 with ⟨hlo, hhi⟩ | ⟨hlo, hhi⟩
  · have hi0 : (c : Int) ≤ 63 := by omega
    have lo0 : (32 : Int) ≤ (c : Int) := by omega
    have d0 : decide ((32 : Int) ≤ (c : Int)) = true := by simp; omega
    have d1 : decide ((c : Int) ≤ 63) = true := by simp; omega
    have d2 : ((64 : Int) ≤ (c : Int)) = False := by simp; omega
    have d3 : decide ((c : Int) ≤ 94) = true := by simp; omega
    have HE : Hid ([DV.e6 c] = [c]) := Lib.hid (by unfold DV.e6; (repeat (first | rw [if_pos (by omega)] | rw [if_neg (by omega)])); try simp; try (first | omega | (subst hx2 hx1; rfl) | (subst hx1; rfl)))
    clear hlo hhi lo0 hi0
    go_enter Tryz.func148, Tryz.ntmps148
    go_wp2_with (at_builtin; refine wpList_pushL _ _ 24 base 5 (.int .u8 0) 1 v xs.length (bys xs) (.int .u8 c) rfl rfl rfl rfl Tryz.underlying24 Tryz.infoBy rfl rfl (by decide) HO.out (by omega) HBS.out ?_)
    intro v2 w2 ho2 hg2
    have HO2 : Hid (Off w2 base 5 v2 (xs ++ [DV.e6 c]).length (bys (xs ++ [DV.e6 c]))) := Lib.hid (by rw [HE.out, bys_append, List.length_append]; exact ho2)
    have HG2 := Lib.hid hg2
    clear ho2 hg2
    go_wp2_with fail
    go_ret2
    exact ⟨v2, rfl, HO2, HG2⟩
  · have hi0 : (c : Int) ≤ 94 := by omega
    have lo0 : (64 : Int) ≤ (c : Int) := by omega
    have d0 : decide ((32 : Int) ≤ (c : Int)) = true := by simp; omega
    have d1 : ((c : Int) ≤ 63) = False := by simp; omega
    have d2 : decide ((64 : Int) ≤ (c : Int)) = true := by simp; omega
    have d3 : decide ((c : Int) ≤ 94) = true := by simp; omega
    obtain ⟨x1, hx1⟩ : ∃ x1, x1 = c - 64 := ⟨_, rfl⟩
    have w1 : IntKind.u8.wrap ((c : Int) - 64) = (x1 : Int) := by rw [IntKind.wrap_u8]; omega
    have HE : Hid ([DV.e6 c] = [x1]) := Lib.hid (by unfold DV.e6; (repeat (first | rw [if_pos (by omega)] | rw [if_neg (by omega)])); try simp; try (first | omega | (subst hx2 hx1; rfl) | (subst hx1; rfl)))
    clear hlo hhi lo0 hi0 hx1
    go_enter Tryz.func148, Tryz.ntmps148
    go_wp2_with (at_builtin; refine wpList_pushL _ _ 24 base 5 (.int .u8 0) 1 v xs.length (bys xs) (.int .u8 x1) rfl rfl rfl rfl Tryz.underlying24 Tryz.infoBy rfl rfl (by decide) HO.out (by omega) HBS.out ?_)
    intro v2 w2 ho2 hg2
    have HO2 : Hid (Off w2 base 5 v2 (xs ++ [DV.e6 c]).length (bys (xs ++ [DV.e6 c]))) := Lib.hid (by rw [HE.out, bys_append, List.length_append]; exact ho2)
    have HG2 := Lib.hid hg2
    clear ho2 hg2
    go_wp2_with fail
    go_ret2
    exact ⟨v2, rfl, HO2, HG2⟩
end Go.Proofs.YtcadknfcahmdcaaGreat
