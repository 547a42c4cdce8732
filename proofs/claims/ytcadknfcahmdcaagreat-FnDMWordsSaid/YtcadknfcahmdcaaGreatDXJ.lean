/-
  The invariant of the main loop, and what each encoder makes of it (plain). No condition beyond the bounds that each theorem states.
-/
import Derived.Test.YtcadknfcahmdcaaGreatDXI
import Derived.Test.YtcadknfcahmdcaaGreatDXB
import Derived.Test.YtcadknfcahmdcaaGreatDXC
import Derived.Test.YtcadknfcahmdcaaGreatDXD
namespace Go.Proofs.YtcadknfcahmdcaaGreat
open Go.RowKit Go.Qz Go.Qz.DF
open Go.Qz.DV hiding val run part
set_option linter.unusedVariables false

/-- In ASCII. -/
def MainA (sh T p0 : Nat) (s mac ws : List Nat) (pos : Nat) : Prop := InvA sh T p0 s mac ws pos ∧ p0 ≤ pos ∧ pos ≤ T ∧ ws.length ≤ 2 * pos + (if T ≤ pos + 2 then 2 else 0)
/-- In ASCII, or behind the latch to a mode. -/
def Main (sh T p0 : Nat) (s mac ws : List Nat) (pos m : Nat) : Prop := (m = 0 ∧ MainA sh T p0 s mac ws pos) ∨ (1 ≤ m ∧ m ≤ 4 ∧ pos + 2 < T ∧ Look s pos 0 m ∧ ∃ w, ws = w ++ [latch m] ∧ MainA sh T p0 s mac w pos)
/-- Where the text ends: all of it, or ahead of a macro's trailer. -/
def Tr (s : List Nat) (T : Nat) : Prop := T = s.length ∨ (T + 2 = s.length ∧ nth s T = 30 ∧ nth s (T + 1) = 4)
theorem MainA.start {sh T p0 : Nat} {s mac : List Nat} (h : mac.length ≤ 2 * p0) (hT : p0 ≤ T) : MainA sh T p0 s mac mac p0 := ⟨InvA.start sh T p0 s mac, Nat.le_refl _, hT, by split <;> omega⟩
section
variable {sh T p0 m : Nat} {s mac ws w tl : List Nat} {pos pos' : Nat}
theorem Main.bound (h : Main sh T p0 s mac ws pos m) : pos ≤ T ∧ ws.length ≤ 2 * pos + 2 ∧ (1 ≤ m → pos + 2 < T ∧ ws.length ≤ 2 * pos + 1) := by
  rcases h with ⟨rfl, _, _, h1, h2⟩ | ⟨h1, _, h2, _, w, rfl, _, _, h3, h4⟩
  · exact ⟨h1, by split at h2 <;> omega, by omega⟩
  · rw [if_neg (by omega)] at h4
    rw [List.length_append]
    simp only [List.length_cons, List.length_nil]
    omega
/-- A word of ASCII, two digits, a latch. -/
theorem MainA.asc (h : MainA sh T p0 s mac ws pos) (hpT : pos < T) (hTr : Tr s T) (hs : ∀ i, i < s.length → nth s i < 128) {ws' : List Nat} {enc' : Int} (ho : AscOut s ws pos ws' pos' enc') :
    ws'.length = ws.length + 1 ∧ ((enc' = -1 ∧ pos < pos' ∧ Main sh T p0 s mac ws' pos' 0) ∨ ∃ m : Nat, enc' = m ∧ 1 ≤ m ∧ m ≤ 4 ∧ pos' = pos ∧ Main sh T p0 s mac ws' pos m) := by
  obtain ⟨hI, h0, h1, hw⟩ := h
  have hTs : T ≤ s.length := by rcases hTr with h | h <;> omega
  rcases ho with ⟨he, ho⟩ | ⟨m, m1, m4, rfl, rfl, rfl, hl⟩
  · rcases ho with ⟨hp, hd1, hd2, rfl, rfl⟩ | ⟨rfl, rfl⟩
    · have hp2 : pos + 1 < T := by
        rcases hTr with h | ⟨h, h30, _⟩
        · omega
        · rcases Nat.lt_or_ge (pos + 1) T with h3 | h3
          · exact h3
          · rw [show pos + 1 = T by omega] at hd2; omega
      refine ⟨by simp, .inl ⟨he, by omega, .inl ⟨rfl, hI.two h0 hp hd1 hd2, by omega, by omega, ?_⟩⟩⟩
      rw [List.length_append]
      simp only [List.length_cons, List.length_nil]
      split at hw
      · rw [if_pos (by omega)]; omega
      · split <;> omega
    · refine ⟨by simp, .inl ⟨he, by omega, .inl ⟨rfl, hI.chr h0 (by omega) (hs _ (by omega)), by omega, by omega, ?_⟩⟩⟩
      rw [List.length_append]
      simp only [List.length_cons, List.length_nil]
      split at hw
      · rw [if_pos (by omega)]; omega
      · split <;> omega
  · refine ⟨by simp, .inr ⟨m, rfl, m1, m4, rfl, .inr ⟨m1, m4, ?_, hl, ws, rfl, hI, h0, h1, hw⟩⟩⟩
    rcases Nat.lt_or_ge (pos' + 2) T with h3 | h3
    · exact h3
    · have := hl.r0 rfl (by
        rcases hTr with h | ⟨h, h30, h4⟩
        · exact .inl (by omega)
        · exact .inr ⟨by omega, by omega, by rw [show s.length - 2 = T by omega]; exact h30, by rw [show s.length - 1 = T + 1 by omega]; exact h4⟩)
      omega
theorem snoc_len (w : List Nat) (x : Nat) : (w ++ [x]).length = w.length + 1 := by simp
/-- A segment of C40 or Text. -/
theorem MainA.c40 (hm : m = 1 ∨ m = 2) (h : MainA sh T p0 s mac w pos) (hpT : pos + 2 < T) (hsh : sh ≤ 2) (hTr : Tr s T) (hs : ∀ i, i < s.length → nth s i < 128) (hcm : 2 * T + 6 ≤ capMost sh) (ho : C40Out sh T m s (w ++ [latch m]).length pos tl pos') :
    pos < pos' ∧ Main sh T p0 s mac (w ++ [latch m] ++ tl) pos' 0 := by
  obtain ⟨hI, h0, h1, hw⟩ := h
  rw [if_neg (by omega)] at hw
  have hTs : T ≤ s.length := by rcases hTr with h | h <;> omega
  have hc0 := cap_le_most sh
  obtain ⟨D, n, U, hD, hDT, hn, rfl, q1, q2, hU⟩ := ho
  have hp : ∀ x ∈ DV.part s pos pos', x < 128 := part_mem fun i _ _ h => hs i h
  have hl := evs_len hm _ hp
  rw [part_len (by omega)] at hl
  have hDl : D.length ≤ 1 := by rcases hD with rfl | ⟨d, _, rfl⟩ <;> simp
  have hn' := hn
  rw [List.length_append] at hn'
  have hD0 : D = [] → D.length = 0 := fun e => by rw [e]; rfl
  have ht := trips_len n _ hn
  have hlen : ∀ U : List Nat, (w ++ [latch m] ++ (trips (evs m (DV.part s pos pos') ++ D) ++ U)).length = w.length + 1 + (2 * n + U.length) := fun U => by
    rw [List.length_append, snoc_len, List.length_append, ht]
  refine ⟨q1, .inl ⟨rfl, ?_, by omega, q2, ?_⟩⟩
  · rcases hU with rfl | ⟨rfl, g1, g2⟩
    · rw [List.append_assoc]
      exact hI.c40u h0 (by omega) (by omega) hpT hm hs hD hn
    · rw [List.append_assoc, List.append_nil]
      rw [snoc_len] at g2
      exact hI.c40f h0 (by omega) (by omega) hpT hm hs hD hn hsh g1 q2 (by omega) g2
  · rw [hlen]
    have hUl : U.length ≤ 1 := by rcases hU with rfl | ⟨rfl, _⟩ <;> simp
    split
    · omega
    · rcases hDT with e | e
      · have := hD0 e; omega
      · omega
/-- A segment of X12. -/
theorem MainA.x12 (h : MainA sh T p0 s mac w pos) (hpT : pos + 2 < T) (hsh : sh ≤ 2) (hTr : Tr s T) (hX : ∀ i, pos ≤ i → i < T → nth s i < 128 ∧ isX (nth s i) = true) (hcm : 2 * T + 6 ≤ capMost sh) (ho : X12Out sh T s (w ++ [latch 3]).length pos tl pos') :
    pos < pos' ∧ Main sh T p0 s mac (w ++ [latch 3] ++ tl) pos' 0 := by
  obtain ⟨hI, h0, h1, hw⟩ := h
  rw [if_neg (by omega)] at hw
  have hTs : T ≤ s.length := by rcases hTr with h | h <;> omega
  have hc0 := cap_le_most sh
  obtain ⟨n, U, e1, n1, q2, rfl, hU⟩ := ho
  have ht := xtrips_len (s := s) (p := pos) (q := pos') (n := n) (by omega) e1
  have hlen : ∀ U : List Nat, (w ++ [latch 3] ++ (trips ((DV.part s pos pos').map xv) ++ U)).length = w.length + 1 + (2 * n + U.length) := fun U => by
    rw [List.length_append, snoc_len, List.length_append, ht]
  refine ⟨by omega, .inl ⟨rfl, ?_, by omega, q2, ?_⟩⟩
  · rcases hU with rfl | ⟨rfl, g1, g2⟩
    · rw [List.append_assoc]
      exact hI.x12u (n := n) h0 (by omega) (by omega) hpT (fun i a b => hX i a (by omega)) (by omega)
    · rw [List.append_assoc, List.append_nil]
      rw [snoc_len] at g2
      exact hI.x12f (n := n) h0 (by omega) (by omega) hpT (fun i a b => hX i a (by omega)) (by omega) hsh g1 q2 (by omega) g2
  · rw [hlen]
    have hUl : U.length ≤ 1 := by rcases hU with rfl | ⟨rfl, _⟩ <;> simp
    split <;> omega
/-- A segment of EDIFACT. -/
theorem MainA.edi (h : MainA sh T p0 s mac w pos) (hpT : pos + 2 < T) (hsh : sh ≤ 2) (hTr : Tr s T) (hcm : 2 * T + 6 ≤ capMost sh) (ho : EdiOut sh T s (w ++ [latch 4]).length pos tl pos') :
    pos < pos' ∧ Main sh T p0 s mac (w ++ [latch 4] ++ tl) pos' 0 := by
  obtain ⟨hI, h0, h1, hw⟩ := h
  rw [if_neg (by omega)] at hw
  have hTs : T ≤ s.length := by rcases hTr with h | h <;> omega
  have hc0 := cap_le_most sh
  obtain ⟨j, q, U, rfl, rfl, q1, q2, hE, hU⟩ := ho
  rw [snoc_len] at hU
  have ht := esix_len (s := s) (p := pos) (q := pos + 4 * j) (n := j) (by rcases hU with h | h | h | h | h <;> omega) rfl
  have hlen : ∀ U : List Nat, (w ++ [latch 4] ++ (sixes (DV.part s pos (pos + 4 * j)) ++ U)).length = w.length + 1 + (3 * j + U.length) := fun U => by
    rw [List.length_append, snoc_len, List.length_append, ht]
  have e4 : ∀ U : List Nat, w ++ [latch 4] ++ (sixes (DV.part s pos (pos + 4 * j)) ++ U) = w ++ (240 :: (sixes (DV.part s pos (pos + 4 * j)) ++ U)) := fun U => by rw [List.append_assoc]; rfl
  refine ⟨q1, .inl ⟨rfl, ?_, by omega, q2, ?_⟩⟩
  · rw [e4]
    rcases hU with ⟨rfl, rfl, g1, g2⟩ | ⟨rfl, rfl, g1⟩ | ⟨rfl, rfl, rfl, g1⟩ | ⟨rfl, rfl, rfl⟩ | ⟨rfl, rfl, rfl⟩
    · exact hI.edi0 h0 (by omega) (by omega) hpT hE (by omega) hsh g1 q2 (by omega) g2
    · refine hI.edi1 h0 (by omega) (by omega) hpT hE (n := j) (by omega) fun N a1 a2 a3 => ?_
      exact edi_B hsh (by omega) g1 N a1 (by omega) a3
    · exact hI.edi2 h0 (by omega) (by omega) hpT hE (by omega) hsh rfl (by omega) g1
    · exact hI.edi3 (n := j) h0 (by omega) (by omega) hpT hE (by omega)
    · exact hI.edi4 (n := j) h0 (by omega) (by omega) hpT hE (by omega)
  · rw [hlen]
    rcases hU with ⟨rfl, rfl, g1, g2⟩ | ⟨rfl, rfl, g1⟩ | ⟨rfl, rfl, rfl, g1⟩ | ⟨rfl, rfl, rfl⟩ | ⟨rfl, rfl, rfl⟩ <;> simp only [six3, List.length_cons, List.length_nil] <;> split <;> omega
/-- X12 is taken where the own text has its bytes alone. -/
theorem look_x12 (hl : Look s pos 0 3) (hTr : Tr s T) (hpT : pos < T) (hX : (∃ i, pos ≤ i ∧ i < T ∧ isS (nth s i) = true) → ∀ i, pos ≤ i → i < T → isX (nth s i) = true) : ∀ i, pos ≤ i → i < T → isX (nth s i) = true := by
  rcases hl.r3 rfl with h | ⟨i, h1, h2, h3⟩
  · omega
  · refine hX ⟨i, h1, ?_, h3⟩
    rcases hTr with h | ⟨h, h30, h4⟩
    · omega
    · rcases Nat.lt_or_ge i T with g | g
      · exact g
      · exfalso
        rcases (show i = T ∨ i = T + 1 by omega) with rfl | rfl
        · rw [h30] at h3; revert h3; decide
        · rw [h4] at h3; revert h3; decide
/-- EDIFACT has all bytes of a segment. -/
theorem look_edi (hl : Look s pos 0 4) (hTr : Tr s T) (hpT : pos < T) (hE : (∀ i, pos ≤ i → i < T → isE (nth s i) = true) ∨ ∀ j, pos ≤ j → Runs8 (fun i => nth s (j + i))) :
    ∃ lim, lim ≤ T ∧ (∀ i, pos ≤ i → i < lim → isE (nth s i) = true) ∧ (lim = T ∨ (lim = pos + 8 ∧ ∀ r, Look s lim 4 r → r ≠ 4)) := by
  rcases hE with hE | hR
  · exact ⟨T, Nat.le_refl _, hE, .inl rfl⟩
  · have h8 := hl.r40 rfl rfl (hR pos (Nat.le_refl _))
    have hnT : isE (nth s T) = false := by
      rcases hTr with h | ⟨_, h30, _⟩
      · rw [show nth s T = 0 by simp [nth, h]]; decide
      · rw [h30]; decide
    have hlT : pos + 8 ≤ T := by
      rcases Nat.lt_or_ge T (pos + 8) with h | h
      · have := h8 (T - pos) (by omega)
        rw [show pos + (T - pos) = T by omega, hnT] at this
        cases this
      · exact h
    refine ⟨pos + 8, hlT, fun i a b => ?_, ?_⟩
    · have := h8 (i - pos) (by omega)
      rwa [show pos + (i - pos) = i by omega] at this
    · rcases Nat.lt_or_ge (pos + 8) T with h | h
      · refine .inr ⟨rfl, fun r hr e => ?_⟩
        have hTs : T ≤ s.length := by rcases hTr with h | h <;> omega
        have h9 := hr.r44 e rfl (by omega) (hR (pos + 8) (by omega))
        have := hR pos (Nat.le_refl _) 0 9 (fun i hi => by
          rcases (show i < 8 ∨ i = 8 by omega) with h | rfl
          · simpa using h8 i h
          · simpa using h9)
        omega
      · exact .inl (by omega)
end
end Go.Proofs.YtcadknfcahmdcaaGreat
