/-
  FnAZTexts, walked: for every input the law returns true. No condition beyond what the statement's own domain gives.
-/
import Derived.Test.YtnalnfhpnlgdmaaAZX
import Derived.Test.YtnalnfhpnlgdmaaAZE
import Derived.Outline
namespace Go.Proofs.Ytnalnfhpnlgdmaa
open Go.RowKit Go.Qz
set_option linter.unusedVariables false

theorem runs_five {ms : List Mi} {bits : List Bool} {T : List Nat} {s : Nat × Nat} (h : Runs (0, 0) ms bits T s) (h2 : 0 < bits.length) : 5 ≤ bits.length := by
  cases h with
  | nil => simp at h2
  | @cons _ _ m s1 _ ms' bs ts hn hr =>
    rw [List.length_append]
    have : 5 ≤ (en 0 m).length := by
      cases m with
      | ch c => exact Nat.le_of_eq (bitsOf_len c 5).symm
      | lat c => exact Nat.le_of_eq (bitsOf_len c 5).symm
      | sh c => exact Nat.le_of_eq (bitsOf_len c 5).symm
      | bytes b => obtain ⟨h0, _⟩ := hn; cases h0
    omega

set_option maxRecDepth 100000 in
set_option maxHeartbeats 1600000 in
theorem highLevel (d : Value) (L : List Bool) (all : List Nat) (A : Option Addr) (n cq : Nat) (hn : n = L.length) (hn5 : 5 ≤ n) (hnl : n < 1000000) (hat : At L all 0 0 0 []) (hall : all.length < 1000000 ∧ ∀ x ∈ all, x < 128) (w : World) (h : Rd w A n (fun j => .bool (nthB L j))) :
    Calls Try.prog 12 #[d, .slice A n cq] w (TextPost all w) := by
  have HED := Lib.hid (encodedData d L all A n cq hn hn5 hnl hat hall w h)
  obtain ⟨s, hs⟩ : ∃ s, s = strB all := ⟨_, rfl⟩
  have HS := Lib.hid hs
  clear hn hat hall h
  go_enter Try.func12, Try.ntmps12
  go_wp2_with fail
  refine HED.out.mono ?_
  rintro e w1 ⟨rfl, hb⟩
  rw [← HS.out]
  have HB := Lib.hid hb
  clear hb hs
  go_wp2_with fail
  go_ret2
  rw [HS.out]
  exact ⟨rfl, HB.out⟩

theorem newDecoder (w : World) : Calls Try.prog 11 #[] w fun e w' => ∃ p : Nat, e = .returned (.pointer (some ⟨p, 0, none⟩)) ∧ Below w.heap.size w w' := by
  go_enter Try.func11, Try.ntmps11
  go_wp2_with fail
  go_ret
  exact ⟨_, rfl, (Below.refl _ _).alloc (Nat.le_refl _) _⟩

set_option maxRecDepth 100000 in
set_option maxHeartbeats 1600000 in
theorem azText (L : List Bool) (all : List Nat) (A : Option Addr) (n cq : Nat) (hn : n = L.length) (hn5 : 5 ≤ n) (hnl : n < 1000000) (hat : At L all 0 0 0 []) (hall : all.length < 1000000 ∧ ∀ x ∈ all, x < 128) (w : World) (h : Rd w A n (fun j => .bool (nthB L j))) :
    Calls Try.prog 5 #[.slice A n cq] w fun e w' => e = .returned (.tuple #[.string (strB all), .bool true]) ∧ Below w.heap.size w w' := by
  have HH := Lib.hid (fun (d : Value) (A' : Option Addr) (c' : Nat) (W : World) (hW : Rd W A' n (fun j => .bool (nthB L j))) => highLevel d L all A' n c' hn hn5 hnl hat hall W hW)
  have HR := Lib.hid h
  obtain ⟨s, hs⟩ : ∃ s, s = strB all := ⟨_, rfl⟩
  have HS := Lib.hid hs
  clear hn hat hall h
  rw [← hs]
  clear hs
  go_enter Try.func5, Try.ntmps5
  go_wp2_with fail
  refine (newDecoder w).mono ?_
  rintro e w1 ⟨p, rfl, hb1⟩
  have HR1 := Lib.hid (HR.out.below hb1)
  have HB1 := Lib.hid hb1
  have hown : w1.ownsRow w.heap.size 4 1 (.slice none 0 0) 0 [] := World.ownsRow_nil _ _ _ _
  have hz1 := hb1.size
  clear hb1
  go_wp2_with (at_builtin; refine wpList_copyTo _ _ 23 w.heap.size 4 (.bool false) 1 _ 0 [] _ _ _ _ rfl rfl rfl rfl Try.underlying23 Try.infoBoolP rfl (fun j _ => rfl) (by decide) hown HR1.out (by omega) hz1 ?_)
  intro v2 w2 hown2 hg2 hb2
  obtain ⟨A', c', rfl, hc', _, hr⟩ := Rd.of_own hown2
  have hr2 : Rd w2 A' n (fun j => .bool (nthB L j)) := hr.congr fun j hj => by
    rw [List.getD_eq_getElem?_getD, List.getElem?_map, List.getElem?_range hj]; rfl
  have HR2 := Lib.hid hr2
  have HB2 := Lib.hid (HB1.out.trans hb2)
  clear hown hown2 hg2 hb2 hr hr2 HR1 HB1
  go_wp2_with fail
  refine (HH.out _ _ _ _ HR2.out).mono ?_
  rintro e w3 ⟨rfl, hb3⟩
  rw [← HS.out]
  have HB3 := Lib.hid (HB2.out.trans (hb3.mono HB2.out.size))
  clear hb3 HB2
  go_wp2_with fail
  go_ret2
  exact ⟨rfl, HB3.out⟩

set_option maxRecDepth 100000 in
set_option maxHeartbeats 3200000 in
theorem fnAZTexts (w : World) (A : Option Addr) (n c : Nat) (z : Nat → Int) (hnc : n ≤ c) (hcm : c ≤ maxLen) (hz : ∀ j, j < n → (Lit.int .u8 (z j)).wf = true) (h : Rd w A n (fun j => .int .u8 (z j))) :
    Calls Try.prog 3 #[.slice A n c] w fun e w' => e = .returned (.bool true) ∧ Below w.heap.size w w' := by
  unfold maxLen at hcm
  by_cases hbig : 2147483647 < n
  · go_enter Try.func3, Try.ntmps3
    go_wp2_with fail
    go_ret
    exact ⟨rfl, Below.refl _ _⟩
  have hr : Rd w A n (fun j => .int .u8 ((z j).toNat : Nat)) := h.congr fun j hj => by
    have := bd_u8 (hz j hj); rw [show (((z j).toNat : Nat) : Int) = z j by omega]
  have hz2 : ∀ j, j < n → (fun j => (z j).toNat) j < 256 := fun j hj => by
    have := bd_u8 (hz j hj)
    show (z j).toNat < 256
    omega
  have HWR := Lib.hid (azWrite A n c (fun j => (z j).toNat) 200 (Nat.le_refl _) hnc (by omega) (by omega) hz2 w hr)
  clear hz h hr hz2
  go_enter Try.func3, Try.ntmps3
  go_wp2_with fail
  refine HWR.out.mono ?_
  rintro e w1 ⟨v, bits, T, ms, mode, rfl, hown, hrun, hm, hbl, hTl, hTx, hb⟩
  obtain ⟨A', c', rfl, hc', _, hrd⟩ := Rd.of_own hown
  have hrd2 : Rd w1 A' bits.length (fun j => .bool (nthB bits j)) := hrd.congr fun j hj => by
    rw [List.getD_eq_getElem?_getD, List.getElem?_map, List.getElem?_eq_getElem hj, nthB_eq hj]; rfl
  obtain ⟨m, hm0⟩ : ∃ m, m = bits.length := ⟨_, rfl⟩
  rw [← hm0] at hrd2 hbl hc' ⊢
  have HB := Lib.hid hb
  have HRD := Lib.hid hrd2
  have HRUN := Lib.hid hrun
  have HTX := Lib.hid hTx
  have HM := Lib.hid hm0
  obtain ⟨s, hs⟩ : ∃ s, s = strB T := ⟨_, rfl⟩
  have HS := Lib.hid hs
  rw [← hs]
  have hss : (s.toList == s.toList) = true := by simp
  clear hown hrd hrd2 hrun hTx hb hm0 hs HWR
  by_cases h2 : m < 2
  · have h2' : (m : Int) < 2 := by omega
    go_wp2_with fail
    go_ret
    exact ⟨rfl, HB.out⟩
  · have h2' : (2 : Int) ≤ (m : Int) := by omega
    have h5 : 5 ≤ m := by have := runs_five HRUN.out (by have := HM.out; omega); have := HM.out; omega
    have HAZ := Lib.hid (azText bits T A' m c' HM.out h5 (by omega) ⟨ms, bits, T, mode, mode, [], HRUN.out, by simp, .inl rfl, by simp, by omega⟩ ⟨by omega, HTX.out⟩ w1 HRD.out)
    rw [← HS.out] at HAZ
    go_wp2_with fail
    refine HAZ.out.mono ?_
    rintro e w2 ⟨rfl, hb2⟩
    have HB2 := Lib.hid (HB.out.trans (hb2.mono HB.out.size))
    clear hb2
    go_wp2_with fail
    go_ret
    exact ⟨rfl, HB2.out⟩
end Go.Proofs.Ytnalnfhpnlgdmaa
