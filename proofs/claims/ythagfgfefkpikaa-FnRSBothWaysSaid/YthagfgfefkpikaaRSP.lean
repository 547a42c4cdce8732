/-
  two, PolyPlus, rsPoly and the statement FnRSSums, walked. No condition beyond the bounds that each theorem states.
-/
import Derived.Test.YthagfgfefkpikaaRSA
import Derived.Deep.RegionHeld3
import Derived.Deep.DeepCutAuto
namespace Go.Proofs.Ythagfgfefkpikaa
open Go.RowKit Go.Qz Go.Qz.RS
set_option linter.unusedVariables false

set_option maxRecDepth 100000 in
set_option maxHeartbeats 1600000 in
theorem implTwo (F : Fld) (hF : Six F) (a b : List Nat) (ha : a ≠ []) (hb : b ≠ []) (hal : a.length < 1000000) (hbl : b.length < 1000000) (A B : Option Addr) (c d : Nat) (w : World) (hA : SlQ w (fun _ => True) A a c) (hB : SlQ w (fun _ => True) B b d) :
    Calls Try.prog 38 #[fv F, .slice A a.length c, .slice B b.length d] w fun e w' => ∃ p q f, e = .returned (.tuple #[.pointer (some ⟨p, 0, none⟩), .pointer (some ⟨q, 0, none⟩), .nilIface]) ∧ Below w.heap.size w w' ∧
      GFQ w' (fun _ => True) f F ∧ PolyQ w' (fun _ => True) p f (tidy a) ∧ PolyQ w' (fun _ => True) q f (tidy b) := by
  have hb0 : Below w.heap.size w (w.alloc (.cells #[.int .i64 F.prim, .int .i64 F.size, .int .i64 F.base] 23)) := (Below.refl _ _).alloc (Nat.le_refl _) _
  have HF := Lib.hid (implField (fun _ => True) F hF (w.alloc (.cells #[.int .i64 F.prim, .int .i64 F.size, .int .i64 F.base] 23)) (fun _ _ => trivial))
  have HS := Lib.hid (hA.below hb0)
  have HS2 := Lib.hid (hB.below hb0)
  clear hA hB
  unfold fv at HF ⊢
  go_enter Try.func38, Try.ntmps38
  go_wp2_with fail
  refine HF.out.mono ?_
  rintro e w1 ⟨f, rfl, hg, hb1, _⟩
  have HP := Lib.hid (implPoly (fun _ => True) f A a c w1 (fun _ _ => trivial) hal (HS.out.below hb1).rd)
  have HS3 := Lib.hid (HS2.out.below hb1)
  have hb1' := hb0.trans (hb1.mono (by simp))
  have HG := Lib.hid hg
  clear hb1 hb0 hg HF HS HS2
  go_wp2_with fail
  refine HP.out.mono ?_
  rintro e w2 ⟨v, x, rfl, hb2, _, h2⟩
  obtain ⟨rfl, p, rfl, hp⟩ := h2 ha
  have hb2' := hb1'.trans (hb2.mono hb1'.size)
  have HP2 := Lib.hid (implPoly (fun _ => True) f B b d w2 (fun _ _ => trivial) hbl (HS3.out.below hb2).rd)
  have HG2 := Lib.hid (HG.out.below hb2)
  have HPp := Lib.hid hp
  have hneq : ∀ W, (binOp .neq 58 .nilIface .nilIface).run Try.prog W = .ok (.bool false) W := fun W => rfl
  clear hb2 hb1' HG HS3 HP hp h2
  go_wp2_with fail
  refine HP2.out.mono ?_
  rintro e w3 ⟨v, x, rfl, hb3, _, h2⟩
  obtain ⟨rfl, q, rfl, hq⟩ := h2 hb
  have HQ := Lib.hid hq
  have HG3 := Lib.hid (HG2.out.below hb3)
  have HPp3 := Lib.hid (HPp.out.below hb3)
  clear h2 hq HG2 HPp HP2
  go_wp2_with fail
  exact bodyPost_ret (v := .tuple #[.pointer (some ⟨p, 0, none⟩), .pointer (some ⟨q, 0, none⟩), .nilIface]) (by simp [results, Try.results38, go_sem]) rfl ⟨p, q, f, rfl, hb2'.trans (hb3.mono hb2'.size), HG3.out, HPp3.out, HQ.out⟩

set_option maxRecDepth 100000 in
set_option maxHeartbeats 1600000 in
theorem polyPlus (F : Fld) (hF : Six F) (a b : List Nat) (ha : a ≠ []) (hb : b ≠ []) (hta : tidy a = a) (htb : tidy b = b) (hav : ∀ j, nth a j < 65536) (hbv : ∀ j, nth b j < 65536) (hal : a.length < 100000) (hbl : b.length < 100000) (A B : Option Addr) (c d : Nat) (w : World) (hA : SlQ w (fun _ => True) A a c) (hB : SlQ w (fun _ => True) B b d) :
    Calls Try.prog 20 #[fv F, .slice A a.length c, .slice B b.length d] w fun e w' => ∃ A' c', e = .returned (.tuple #[.slice A' (plus a b).length c', .bool true]) ∧ Below w.heap.size w w' ∧ SlQ w' (fun _ => True) A' (plus a b) c' := by
  have hb0 : Below w.heap.size w (w.alloc (.cells #[.int .i64 F.prim, .int .i64 F.size, .int .i64 F.base] 23)) := (Below.refl _ _).alloc (Nat.le_refl _) _
  have HT := implTwo F hF a b ha hb (by omega) (by omega) A B c d (w.alloc (.cells #[.int .i64 F.prim, .int .i64 F.size, .int .i64 F.base] 23)) (hA.below hb0) (hB.below hb0)
  rw [hta, htb] at HT
  have hpl : (plus a b).length ≤ max a.length b.length := Nat.le_trans (tidy_length _) (by rw [rawTo_length]; exact Nat.le_refl _)
  have hpl2 : (plus a b).length < 100000 := by omega
  have HADD := Lib.hid (fun p q f W hp hq => polyAdd (fun _ => True) p q f a b hal hbl hav hbv hta htb W (fun _ _ => trivial) hp hq)
  clear hA hB hta htb hpl hav hbv
  unfold fv at HT ⊢
  have HT := Lib.hid HT
  go_enter Try.func20, Try.ntmps20
  go_wp2_with fail
  refine HT.out.mono ?_
  rintro e w1 ⟨p, q, f, rfl, hb1, _, hp, hq⟩
  have hb1' := hb0.trans (hb1.mono (by simp))
  have hneq : ∀ W, (binOp .neq 58 .nilIface .nilIface).run Try.prog W = .ok (.bool false) W := fun W => rfl
  have HAD := Lib.hid (HADD.out p q f w1 hp hq)
  clear hb0 hb1 hp hq HT HADD
  go_wp2_with fail
  refine HAD.out.mono ?_
  rintro e w2 ⟨r, rfl, hr, hb2⟩
  have hb2' := hb1'.trans (hb2.mono hb1'.size)
  have HL := Lib.hid (implList (fun _ => True) r f (plus a b) w2 hr (by omega))
  clear hb2 hb1' hr HAD
  go_wp2_with fail
  refine HL.out.mono ?_
  rintro e w3 ⟨v, rfl, hown, hb3⟩
  obtain ⟨A', c', rfl, _, _, _, hsl⟩ := slq_of_own (Q := fun _ => True) hown (fun _ _ => trivial)
  have HSL := Lib.hid hsl
  clear hown hsl HL
  go_wp2_with fail
  go_ret2
  exact ⟨A', c', rfl, hb2'.trans (hb3.mono hb2'.size), HSL.out⟩

/-- A polynomial of at most so many coefficients, from numbers. -/
def polyOf (F : Fld) (z : Nat → Int) (k : Nat) : List Nat := if k = 0 then [0] else tidy (elems F z k)
theorem polyOf_ne (F : Fld) (z : Nat → Int) (k : Nat) : polyOf F z k ≠ [] := by
  unfold polyOf
  split
  · simp
  · rename_i h
    exact tidy_ne _ (fun e => by have := congrArg List.length e; rw [elems_length, List.length_nil] at this; exact h this)
theorem polyOf_tidy (F : Fld) (z : Nat → Int) (k : Nat) : tidy (polyOf F z k) = polyOf F z k := by
  unfold polyOf
  split
  · rfl
  · exact tidy_tidy _
theorem mem_tidy : ∀ (l : List Nat) (x : Nat), x ∈ tidy l → x ∈ l
  | [], _, h => h
  | [a], _, h => h
  | a :: b :: t, x, h => by
    unfold tidy at h
    split at h
    · exact List.mem_cons_of_mem _ (mem_tidy (b :: t) x h)
    · exact h
theorem polyOf_lt (F : Fld) (hF : 4 ≤ F.size) (z : Nat → Int) (k : Nat) : ∀ j, nth (polyOf F z k) j < F.size := by
  intro j
  by_cases h : j < (polyOf F z k).length
  · rw [nth_eq h]
    have hm := List.getElem_mem h
    revert hm
    generalize (polyOf F z k)[j] = x
    unfold polyOf
    split
    · intro hm; have : x = 0 := by simpa using hm
      omega
    · intro hm
      exact elems_lt F hF z k x (mem_tidy _ _ hm)
  · have : nth (polyOf F z k) j = 0 := by unfold nth; rw [List.getD_eq_getElem?_getD, List.getElem?_eq_none (by omega)]; rfl
    rw [this]; omega
theorem polyOf_length (F : Fld) (z : Nat → Int) (k : Nat) : (polyOf F z k).length ≤ k + 1 := by
  unfold polyOf
  split
  · simp
  · have := tidy_length (elems F z k); rw [elems_length] at this; omega

set_option maxRecDepth 100000 in
set_option maxHeartbeats 1600000 in
theorem rsPoly (F : Fld) (hF : Six F) (z : Nat → Int) (A : Option Addr) (n c m : Nat) (M : Int) (hM : M = m) (hm0 : 0 < m) (hm : m ≤ 1000) (w : World) (hn : n < 4294967296) (hz : ∀ j, j < n → -9223372036854775808 ≤ z j ∧ z j ≤ 9223372036854775807) (h : Rd w A n (fun j => .int .i64 (z j))) :
    Calls Try.prog 19 #[fv F, .slice A n c, .int .i64 M] w fun e w' => ∃ A' c', e = .returned (.slice A' (polyOf F z (min n m)).length c') ∧ SlQ w' (fun _ => True) A' (polyOf F z (min n m)) c' ∧ Below w.heap.size w w' := by
  subst hM
  have hFb := hF.bounds
  have hb0 : Below w.heap.size w (w.alloc (.cells #[.int .i64 F.prim, .int .i64 F.size, .int .i64 F.base] 23)) := (Below.refl _ _).alloc (Nat.le_refl _) _
  obtain ⟨l, hl, hll⟩ : ∃ l, elems F z (min n m) = l ∧ l.length = min n m := ⟨_, rfl, elems_length _ _ _⟩
  have HE0 := rsElements F ⟨hFb.1, hFb.2.1⟩ z A n c m m rfl hm (w.alloc (.cells #[.int .i64 F.prim, .int .i64 F.size, .int .i64 F.base] 23)) hn hz (h.below hb0)
  have hpo : polyOf F z (min n m) = if min n m = 0 then [0] else tidy l := by unfold polyOf; rw [hl]
  rw [hl] at HE0
  obtain ⟨T, hT⟩ : ∃ T, polyOf F z (min n m) = T := ⟨_, rfl⟩
  rw [hT] at hpo ⊢
  have HPO := Lib.hid hpo
  unfold fv at HE0 ⊢
  have HE := Lib.hid HE0
  clear HE0 hl hpo hz h hT
  go_enter Try.func19, Try.ntmps19
  go_wp2_with fail
  refine HE.out.mono ?_
  rintro e w1 ⟨v, rfl, hown, hb1⟩
  obtain ⟨A', c', rfl, hl', hlc, hcm', hsl⟩ := slq_of_own (Q := fun _ => True) hown (fun _ _ => trivial)
  have hb1' := hb0.trans (hb1.mono (by simp))
  have hpo := HPO.out
  rw [← hll] at hpo
  clear hown HE hb0 hb1 HPO
  by_cases h0 : l.length = 0
  · have hl0 : l = [] := List.eq_nil_of_length_eq_zero h0
    subst hl0
    have hT : T = [0] := by rw [hpo]; rfl
    subst hT
    clear hpo
    have HT := Lib.hid (fun b w' (h : SlQ w' (fun _ => True) (some ⟨b, 0, none⟩) [0] 1) => rsTidy [0] (by simp) (by simp) (some ⟨b, 0, none⟩) 1 (by simp) w' h.rd)
    clear hll hsl hl'
    go_wp2_with fail
    refine (HT.out w1.heap.size _ (SlQ.lit 0 _ rfl trivial)).mono ?_
    rintro e w2 ⟨v, rfl, hown, hb2⟩
    obtain ⟨A2, c2, rfl, _, _, _, hs2⟩ := slq_of_own (Q := fun _ => True) hown (fun _ _ => trivial)
    have HS := Lib.hid hs2
    have hb3 : Below w.heap.size w w2 := (hb1'.alloc hb1'.size _).trans (hb2.mono (by have := hb1'.size; simp; omega))
    clear hown hs2 hb2
    go_wp2_with fail
    go_ret
    exact ⟨A2, c2, rfl, HS.out, hb3⟩
  · have hl0 : l ≠ [] := fun e => h0 (by rw [e]; rfl)
    have HT := Lib.hid (rsTidy l hl0 (by omega) A' c' hlc w1 hsl.rd)
    have hz0 : ((l.length : Int) == 0) = false := by simp; omega
    rw [if_neg h0] at hpo
    subst hpo
    clear hll hl' hsl
    go_wp2_with fail
    refine HT.out.mono ?_
    rintro e w2 ⟨v, rfl, hown, hb2⟩
    obtain ⟨A2, c2, rfl, _, _, _, hs2⟩ := slq_of_own (Q := fun _ => True) hown (fun _ _ => trivial)
    have HS := Lib.hid hs2
    clear hown hs2
    go_wp2_with fail
    go_ret
    exact ⟨A2, c2, rfl, HS.out, hb1'.trans (hb2.mono hb1'.size)⟩
end Go.Proofs.Ythagfgfefkpikaa
