/-
  The end of a segment of EDIFACT, by what its values are. No condition beyond the bounds that each theorem states.
-/
import Derived.Test.YtcadknfcahmdcaaGreatDXG
namespace Go.Proofs.YtcadknfcahmdcaaGreat
open Go.RowKit Go.Qz Go.Qz.DF
open Go.Qz.DV hiding val run part
set_option linter.unusedVariables false

/-- A segment of EDIFACT behind its latch (W words stand). -/
def EdiOut (sh T : Nat) (s : List Nat) (W pos : Nat) (tl : List Nat) (pos' : Nat) : Prop :=
  ∃ j q U, q = pos + 4 * j ∧ tl = sixes (DV.part s pos q) ++ U ∧ pos < pos' ∧ pos' ≤ T ∧ (∀ i, pos ≤ i → i < pos' → isE (nth s i) = true) ∧
    ((U = [] ∧ pos' = q ∧ T ≤ pos' + 2 ∧ capFor sh (W + 3 * j + (T - pos')) ≤ W + 3 * j + 2) ∨
     (U = [124] ∧ pos' = q ∧ ¬ (T - q ≤ ediRoom sh (W + 3 * j) (T - q) ∧ ediRoom sh (W + 3 * j) (T - q) ≤ 2)) ∨
     (U = [e6 (nth s q) * 4 + 31 / 16, 31 % 16 * 16] ∧ pos' = q + 1 ∧ T = q + 1 ∧ W + 3 * j + 3 ≤ capFor sh (W + 3 * j + 1)) ∨
     (U = six3 (e6 (nth s q)) (e6 (nth s (q + 1))) 31 0 ∧ pos' = q + 2 ∧ T = q + 2) ∨
     (U = six3 (e6 (nth s q)) (e6 (nth s (q + 1))) (e6 (nth s (q + 2))) 31 ∧ pos' = q + 3 ∧ T = q + 3))
def EdiFin (p : Nat) (K : CK) (ws : List Nat) (pos T : Nat) (v0 : Value) (w0 : World) (e : Ending) (w' : World) : Prop :=
  ∃ (v' : Value) (tl : List Nat) (pos' L' : Nat) (sy' : Option (Nat × Nat)), e = .returned .nilIface ∧ Hid (Ctx w' p K (ws ++ tl) pos' 0 sy' v') ∧ Hid (Step p v0 v' w0 w') ∧ Hid (SyOk K.sh L' sy') ∧ Hid (EdiOut K.sh T K.msg ws.length pos tl pos') ∧ Hid (L' ≤ ws.length + tl.length + 1 ∧ (pos' = T → L' ≤ ws.length + tl.length))
theorem epart_len {s : List Nat} {p q : Nat} (hq : q ≤ s.length) : ((DV.part s p q).map e6).length = q - p := by rw [List.length_map, part_len hq]
theorem esix_len {s : List Nat} {p q n : Nat} (hq : q ≤ s.length) (h : q = p + 4 * n) : (sixes (DV.part s p q)).length = 3 * n := sixes_len n _ (by rw [part_len hq]; omega)
theorem ediCall {p : Nat} {K : CK} {ws : List Nat} {pos q qb j n m : Nat} {enc : Int} {sy : Option (Nat × Nat)} {v v0 : Value} (w0 w : World) (h : Ctx w p K (ws ++ sixes (DV.part K.msg pos qb)) q enc sy v) (hs : Step p v0 v w0 w) (T : Nat) (hT : T + K.skip = K.msg.length) (hlen : K.msg.length ≤ 1000) (hsh : K.sh ≤ 2) (hpT : pos + 2 < T) (hqb : qb = pos + 4 * j) (hq : q = qb + n) (hqT : q ≤ T) (hn : n ≤ 3) (hjn : (n = 0 ∧ 1 ≤ j) ∨ q = T)
    (hE : ∀ i, pos ≤ i → i < q → isE (nth K.msg i) = true) (g off cap base : Nat) (hm : m = n + 1) (hb : Buf w K v base (.slice (some ⟨g, off, none⟩) m cap) ((DV.part K.msg qb q).map e6 ++ [31])) (hw : ws.length ≤ 2 * pos + 1) (hcm : 2 * T + 6 ≤ capMost K.sh) (hsy : SyOk K.sh ws.length sy) :
    Calls Tryz.prog 150 #[.pointer (some ⟨p, 0, none⟩), .slice (some ⟨g, off, none⟩) m cap] w (EdiFin p K ws pos T v0 w0) := by
  have hTm : T ≤ K.msg.length := by omega
  have hl : (ws ++ sixes (DV.part K.msg pos qb)).length = ws.length + 3 * j := by rw [List.length_append, esix_len (n := j) (by omega) hqb]
  have hsy' : SyOk K.sh (ws ++ sixes (DV.part K.msg pos qb)).length sy := hsy.mono (by omega)
  have hlt : ∀ i, pos ≤ i → i < q → e6 (nth K.msg i) < 64 := fun i h1 h2 => (e6_ok (hE i h1 h2)).1
  have hc0 := cap_le_most K.sh
  have hcb : capMost K.sh ≤ 1304 := by unfold capMost; split <;> omega
  have hlx : ((DV.part K.msg qb q).map e6 ++ [31]).length = m := by rw [List.length_append, epart_len (by omega)]; simp only [List.length_cons, List.length_nil]; omega
  have ho := hb.off
  rw [hlx] at ho
  have hc := ho.cells
  clear ho hlx
  rcases (show n = 0 ∨ n = 1 ∨ n = 2 ∨ n = 3 by omega) with rfl | rfl | rfl | rfl
  · subst hm
    obtain rfl : q = qb := hq
    rw [part_self] at hb
    refine (ediEOD0 w0 w h hs T (T - q) hT hlen (by omega) hsh g off hb (by omega) hsy').mono ?_
    rintro e w' ⟨v', U, pos', L', sy', rfl, HC, HS, HSY, rfl, hL, hU⟩
    rw [hl] at hL hU
    have hlen2 : (sixes (DV.part K.msg pos pos') ++ U).length = 3 * j + U.length := by rw [List.length_append, esix_len (n := j) (by omega) hqb]
    refine ⟨v', _, pos', L', sy', rfl, by rw [← List.append_assoc]; exact HC, HS, Lib.hid HSY, Lib.hid ⟨j, pos', U, hqb, rfl, by omega, hqT, hE, ?_⟩, Lib.hid ?_⟩
    · rcases hU with ⟨rfl, h1, h2⟩ | ⟨rfl, h1⟩
      · exact .inl ⟨rfl, rfl, by omega, edi_A hsh (by omega) h1 h2⟩
      · exact .inr (.inl ⟨rfl, rfl, h1⟩)
    · rw [hlen2]
      have := hL.2
      exact ⟨by omega, fun e => by have := this (by omega); omega⟩
  · subst hm hq
    have hqT' : qb + 1 = T := by omega
    rw [part_one (by omega)] at hc
    refine (ediEODr1 w0 w h hs T hT hlen hqT' (by omega) hsh _ rfl g off (ediWords2 (e6 (nth K.msg qb)) 31 (hlt _ (by omega) (by omega)) (by omega) g off cap w (hc 0 _ rfl) (hc 1 _ rfl)) (by omega) hsy').mono ?_
    rintro e w' ⟨v', U, pos', L', sy', rfl, HC, HS, HSY, hU⟩
    rw [hl] at hU
    have hlen2 : (sixes (DV.part K.msg pos qb) ++ U).length = 3 * j + U.length := by rw [List.length_append, esix_len (n := j) (by omega) hqb]
    rcases hU with ⟨rfl, rfl, rfl, h1⟩ | ⟨rfl, rfl, rfl, h1⟩
    · refine ⟨v', _, qb + 1, _, sy', rfl, by rw [← List.append_assoc]; exact HC, HS, Lib.hid HSY, Lib.hid ⟨j, qb, _, hqb, rfl, by omega, by omega, hE, .inr (.inr (.inl ⟨rfl, rfl, by omega, h1⟩))⟩, Lib.hid ?_⟩
      rw [hlen2]; simp only [List.length_cons, List.length_nil]; omega
    · refine ⟨v', _, pos', _, sy', rfl, by rw [← List.append_assoc]; exact HC, HS, Lib.hid HSY, Lib.hid ⟨j, pos', [], hqb, rfl, by omega, by omega, fun i a b => hE i a (by omega), .inl ⟨rfl, rfl, by omega, by rw [show T - pos' = 1 by omega]; exact h1⟩⟩, Lib.hid ?_⟩
      rw [hlen2]; simp only [List.length_nil]; omega
  · subst hm hq
    have hqT' : qb + 2 = T := by omega
    rw [part_two (by omega)] at hc
    refine (ediEODr2 w0 w h hs T hT hlen hqT' (by omega) hsh _ rfl g off (ediWords3 (e6 (nth K.msg qb)) (e6 (nth K.msg (qb + 1))) 31 (hlt _ (by omega) (by omega)) (hlt _ (by omega) (by omega)) (by omega) g off cap w (hc 0 _ rfl) (hc 1 _ rfl) (hc 2 _ rfl)) (by omega) hsy').mono ?_
    rintro e w' ⟨v', U, pos', L', sy', rfl, HC, HS, HSY, hU⟩
    rw [hl] at hU
    have hlen2 : (sixes (DV.part K.msg pos qb) ++ U).length = 3 * j + U.length := by rw [List.length_append, esix_len (n := j) (by omega) hqb]
    rcases hU with ⟨rfl, rfl, rfl, h1⟩ | ⟨rfl, rfl, rfl, h1⟩
    · refine ⟨v', _, qb + 2, _, sy', rfl, by rw [← List.append_assoc]; exact HC, HS, Lib.hid HSY, Lib.hid ⟨j, qb, _, hqb, rfl, by omega, by omega, hE, .inr (.inr (.inr (.inl ⟨rfl, rfl, by omega⟩)))⟩, Lib.hid ?_⟩
      rw [hlen2]; show _ ∧ _; simp only [six3, List.length_cons, List.length_nil]; omega
    · refine ⟨v', _, pos', _, sy', rfl, by rw [← List.append_assoc]; exact HC, HS, Lib.hid HSY, Lib.hid ⟨j, pos', [], hqb, rfl, by omega, by omega, fun i a b => hE i a (by omega), .inl ⟨rfl, rfl, by omega, by rw [show T - pos' = 2 by omega]; exact h1⟩⟩, Lib.hid ?_⟩
      rw [hlen2]; simp only [List.length_nil]; omega
  · subst hm hq
    have hqT' : qb + 3 = T := by omega
    rw [part_three (by omega)] at hb
    refine (ediEOD3 w0 w h hs T hT hlen hqT' (e6 (nth K.msg qb)) (e6 (nth K.msg (qb + 1))) (e6 (nth K.msg (qb + 2))) (hlt _ (by omega) (by omega)) (hlt _ (by omega) (by omega)) (hlt _ (by omega) (by omega)) g off hb (by omega) hsy').mono ?_
    rintro e w' ⟨v', U, pos', L', sy', rfl, HC, HS, HSY, rfl, rfl, rfl⟩
    have hlen2 : ∀ U : List Nat, (sixes (DV.part K.msg pos qb) ++ U).length = 3 * j + U.length := fun U => by rw [List.length_append, esix_len (n := j) (by omega) hqb]
    refine ⟨v', _, qb + 3, _, sy', rfl, by rw [← List.append_assoc]; exact HC, HS, Lib.hid HSY, Lib.hid ⟨j, qb, _, hqb, rfl, by omega, by omega, hE, .inr (.inr (.inr (.inr ⟨rfl, rfl, by omega⟩)))⟩, Lib.hid ?_⟩
    rw [hlen2, hl]; simp only [six3, List.length_cons, List.length_nil]; omega
end Go.Proofs.YtcadknfcahmdcaaGreat
