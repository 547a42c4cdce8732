/-
  Where a segment of C40 or Text ends (plain; eodTail is c40HandleEOD's). No program in sight.
-/
import Derived.Test.YtcadknfcahmdcaaGreatDWV
namespace Go.Proofs.YtcadknfcahmdcaaGreat
open Go.RowKit Go.Qz Go.Qz.DV
set_option linter.unusedVariables false

/-- A segment behind its latch (W words stand): values up to pos', a dangling shift, the unlatch or none. -/
def C40Out (sh T m : Nat) (s : List Nat) (W pos : Nat) (tl : List Nat) (pos' : Nat) : Prop :=
  ∃ D n U, Dang D ∧ (D = [] ∨ T ≤ pos' + 2) ∧ (evs m (DV.part s pos pos') ++ D).length = 3 * n ∧ tl = trips (evs m (DV.part s pos pos') ++ D) ++ U ∧ pos < pos' ∧ pos' ≤ T ∧ (U = [254] ∨ (U = [] ∧ T ≤ pos' + 2 ∧ capFor sh (W + 2 * n + (T - pos')) ≤ W + 2 * n + 1))
/-- The ways to the end: nothing given back; one byte; one byte and a value. -/
def EndSt (m : Nat) (s : List Nat) (pos T a : Nat) (X : List Nat) (q : Nat) : Prop :=
  (X = evs m (DV.part s pos T) ∧ q = T ∧ ¬ (X.length % 3 = 2 ∧ a ≠ 2)) ∨
  (X = evs m (DV.part s pos (T - 1)) ∧ q = T - 1 ∧ (((evs m (DV.part s pos T)).length % 3 = 2 ∧ a ≠ 2) ∨ ((evs m (DV.part s pos T)).length % 3 = 1 ∧ a ≠ 1))) ∨
  (∃ x, evs m (DV.part s pos (T - 1)) = X ++ [x] ∧ q = T - 2 ∧ X.length % 3 = 0)
section
variable {sh T m : Nat} {s : List Nat} {W pos a : Nat} {X : List Nat} {q : Nat}
theorem evs_snoc (hm : m = 1 ∨ m = 2) (hs : ∀ i, i < s.length → nth s i < 128) {q : Nat} (h1 : pos ≤ q) (h2 : q < s.length) : evs m (DV.part s pos (q + 1)) = evs m (DV.part s pos q) ++ ev m (nth s q) := by
  rw [part_add (q := q) h1 (by omega) (by omega), part_one h2, evs_append, evs_one]
/-- A value less: a whole byte, or its shift dangles. -/
theorem evs_cut (hm : m = 1 ∨ m = 2) (hs : ∀ i, i < s.length → nth s i < 128) {q : Nat} (h1 : pos ≤ q) (h2 : q < s.length) {x : Nat} (h : evs m (DV.part s pos (q + 1)) = X ++ [x]) : ∃ D, Dang D ∧ X = evs m (DV.part s pos q) ++ D := by
  rw [evs_snoc hm hs h1 h2] at h
  obtain ⟨_, _, e3⟩ := ev_ok hm (hs q h2)
  match hev : ev m (nth s q), e3 with
  | [y], _ =>
    rw [hev] at h
    have := List.append_inj' h rfl
    exact ⟨[], .inl rfl, by rw [List.append_nil]; exact this.1.symm⟩
  | [y, z], e3 =>
    rw [hev, show [y, z] = [y] ++ [z] from rfl, ← List.append_assoc] at h
    have := List.append_inj' h rfl
    refine ⟨[y], .inr ⟨y, ?_, rfl⟩, this.1.symm⟩
    rcases e3 with e3 | e3
    · simp at e3
    · exact e3.2
  | [], e3 => simp at e3
  | _ :: _ :: _ :: _, e3 => simp at e3
theorem trips_cut {X : List Nat} {x n : Nat} (h : X.length = 3 * n) : trips (X ++ [x]) = trips X := by
  rw [trips_append n X [x] h, trips_short (l := [x]) (by simp), List.append_nil]
theorem snoc_ex {V : List Nat} (h : 0 < V.length) : ∃ X x, V = X ++ [x] := ⟨V.dropLast, V.getLast (by intro e; rw [e] at h; simp at h), (List.dropLast_concat_getLast _).symm⟩
/-- In the middle of a text. -/
theorem c40_mid (h1 : pos < q) (h2 : q < T) (h3 : (evs m (DV.part s pos q)).length % 3 = 0) : C40Out sh T m s W pos (eodTail (evs m (DV.part s pos q)) a q T) (eodPos (evs m (DV.part s pos q)) q) := by
  rw [eod0y h3 (.inr h2), eodPn (by omega)]
  exact ⟨[], (evs m (DV.part s pos q)).length / 3, [254], .inl rfl, .inl rfl, by rw [List.append_nil]; omega, by rw [List.append_nil], h1, by omega, .inl rfl⟩
theorem c40_end (hsh : sh ≤ 2) (hm : m = 1 ∨ m = 2) (hs : ∀ i, i < s.length → nth s i < 128) (hT : T ≤ s.length) (hp : pos + 2 < T)
    (ha : W + 2 * ((evs m (DV.part s pos T)).length / 3) + a = capFor sh (W + 2 * ((evs m (DV.part s pos T)).length / 3))) (h : EndSt m s pos T a X q) (hx : ¬ (X.length % 3 = 1 ∧ a ≠ 1)) {a' : Nat} (ha' : W + 2 * (X.length / 3) + a' = capFor sh (W + 2 * (X.length / 3))) :
    (X.length % 3 = 1 → a' = 1) ∧ C40Out sh T m s W pos (eodTail X a' q T) (eodPos X q) := by
  have hpm : ∀ q, ∀ x ∈ DV.part s pos q, x < 128 := fun q => part_mem fun i _ _ h => hs i h
  have hlen : ∀ q, q ≤ s.length → (evs m (DV.part s pos q)).length ≤ 2 * (q - pos) ∧ q - pos ≤ (evs m (DV.part s pos q)).length := fun q hq => by
    have := evs_len hm _ (hpm q)
    rw [part_len hq] at this
    omega
  have e1 : evs m (DV.part s pos T) = evs m (DV.part s pos (T - 1)) ++ ev m (nth s (T - 1)) := by
    have := evs_snoc (pos := pos) hm hs (q := T - 1) (by omega) (by omega)
    rwa [show T - 1 + 1 = T by omega] at this
  obtain ⟨_, _, hl⟩ := ev_ok hm (hs (T - 1) (by omega))
  have hlv : (ev m (nth s (T - 1))).length = 1 ∨ (ev m (nth s (T - 1))).length = 2 := by rcases hl with h | h; exact .inl h; exact .inr h.1
  have elen := congrArg List.length e1
  rw [List.length_append] at elen
  obtain ⟨k1, k2⟩ := hlen T hT
  obtain ⟨j1, j2⟩ := hlen (T - 1) (by omega)
  rcases h with ⟨rfl, rfl, h0⟩ | ⟨rfl, rfl, h0⟩ | ⟨x, hxx, rfl, h0⟩
  · obtain rfl : a' = a := by omega
    rcases (show (evs m (DV.part s pos q)).length % 3 = 0 ∨ (evs m (DV.part s pos q)).length % 3 = 1 ∨ (evs m (DV.part s pos q)).length % 3 = 2 by omega) with hr | hr | hr
    · refine ⟨by omega, ?_⟩
      by_cases ha0 : 0 < a'
      · rw [eod0y hr (.inl ha0), eodPn (by omega)]
        exact ⟨[], (evs m (DV.part s pos q)).length / 3, [254], .inl rfl, .inl rfl, by rw [List.append_nil]; omega, by rw [List.append_nil], by omega, by omega, .inl rfl⟩
      · rw [eod0n hr (by omega), eodPn (by omega)]
        refine ⟨[], (evs m (DV.part s pos q)).length / 3, [], .inl rfl, .inl rfl, by rw [List.append_nil]; omega, by rw [List.append_nil, List.append_nil], by omega, by omega, .inr ⟨rfl, by omega, ?_⟩⟩
        rw [show q - q = 0 by omega, Nat.add_zero]; omega
    · have ha1 : a' = 1 := by omega
      refine ⟨fun _ => ha1, ?_⟩
      rw [eod1n hr (by omega), eodP1 hr]
      obtain ⟨Y, y, hY⟩ := snoc_ex (V := evs m (DV.part s pos q)) (by omega)
      have hYl := congrArg List.length hY
      rw [List.length_append, List.length_singleton] at hYl
      obtain ⟨D, hD, hYD⟩ := evs_cut (pos := pos) hm hs (q := q - 1) (by omega) (by omega) (by rw [show q - 1 + 1 = q by omega]; exact hY)
      refine ⟨D, (evs m (DV.part s pos q)).length / 3, [], hD, .inr (by omega), by rw [← hYD]; omega, by rw [hY, trips_cut (n := (evs m (DV.part s pos q)).length / 3) (by omega), hYD, List.append_nil], by omega, by omega, .inr ⟨rfl, by omega, ?_⟩⟩
      have := capFor_stay (shape := sh) (m := W + 2 * ((evs m (DV.part s pos q)).length / 3)) (n := W + 2 * ((evs m (DV.part s pos q)).length / 3) + (q - (q - 1))) (by omega) (by omega)
      rw [this]; omega
    · have ha2 : a' = 2 := by omega
      refine ⟨by omega, ?_⟩
      rw [eod2n hr (by omega), eodPn (by omega)]
      refine ⟨[0], (evs m (DV.part s pos q)).length / 3 + 1, [], .inr ⟨0, by omega, rfl⟩, .inr (by omega), by rw [List.length_append, List.length_singleton]; omega, by rw [List.append_nil], by omega, by omega, .inr ⟨rfl, by omega, ?_⟩⟩
      rw [show q - q = 0 by omega, Nat.add_zero]
      have := capFor_stay (shape := sh) (m := W + 2 * ((evs m (DV.part s pos q)).length / 3)) (n := W + 2 * ((evs m (DV.part s pos q)).length / 3 + 1)) (by omega) (by omega)
      rw [this]; omega
  · have hlt : T - 1 < T := by omega
    rcases (show (evs m (DV.part s pos (T - 1))).length % 3 = 0 ∨ (evs m (DV.part s pos (T - 1))).length % 3 = 1 ∨ (evs m (DV.part s pos (T - 1))).length % 3 = 2 by omega) with hr | hr | hr
    · refine ⟨by omega, ?_⟩
      rw [eod0y hr (.inr hlt), eodPn (by omega)]
      exact ⟨[], (evs m (DV.part s pos (T - 1))).length / 3, [254], .inl rfl, .inl rfl, by rw [List.append_nil]; omega, by rw [List.append_nil], by omega, by omega, .inl rfl⟩
    · have ha1 : a = 1 := by omega
      have hq : (evs m (DV.part s pos T)).length / 3 = (evs m (DV.part s pos (T - 1))).length / 3 := by omega
      rw [hq] at ha
      refine ⟨fun _ => by omega, ?_⟩
      rw [eod1y hr hlt, eodP1 hr]
      obtain ⟨Y, y, hY⟩ := snoc_ex (V := evs m (DV.part s pos (T - 1))) (by omega)
      have hYl := congrArg List.length hY
      rw [List.length_append, List.length_singleton] at hYl
      obtain ⟨D, hD, hYD⟩ := evs_cut (pos := pos) hm hs (q := T - 2) (by omega) (by omega) (by rw [show T - 2 + 1 = T - 1 by omega]; exact hY)
      refine ⟨D, (evs m (DV.part s pos (T - 1))).length / 3, [254], hD, .inr (by omega), ?_, ?_, by omega, by omega, .inl rfl⟩
      · rw [show T - 1 - 1 = T - 2 by omega, ← hYD]; omega
      · rw [hY, trips_cut (n := (evs m (DV.part s pos (T - 1))).length / 3) (by omega), show T - 1 - 1 = T - 2 by omega, hYD]
    · refine ⟨by omega, ?_⟩
      rw [eod2y hr hlt, eodPn (by omega)]
      exact ⟨[0], (evs m (DV.part s pos (T - 1))).length / 3 + 1, [254], .inr ⟨0, by omega, rfl⟩, .inr (by omega), by rw [List.length_append, List.length_singleton]; omega, rfl, by omega, by omega, .inl rfl⟩
  · have hlt : T - 2 < T := by omega
    refine ⟨by omega, ?_⟩
    obtain ⟨D, hD, hYD⟩ := evs_cut (pos := pos) hm hs (q := T - 2) (by omega) (by omega) (by rw [show T - 2 + 1 = T - 1 by omega]; exact hxx)
    rw [eod0y h0 (.inr hlt), eodPn (by omega)]
    refine ⟨D, X.length / 3, [254], hD, .inr (by omega), by rw [← hYD]; omega, by rw [← hYD], by omega, by omega, .inl rfl⟩
end
end Go.Proofs.YtcadknfcahmdcaaGreat
