/-
  impl.field, poly, list, PolyMake, PolyDegree, walked. No condition beyond the bounds that each theorem states.
-/
import Derived.Test.YthagfgfefkpikaaRSF
import Derived.Test.YthagfgfefkpikaaRSame
namespace Go.Proofs.Ythagfgfefkpikaa
open Go.RowKit Go.Qz Go.Qz.RS
set_option linter.unusedVariables false

theorem slq_of_own {w : World} {Q : Nat → Prop} {base : Nat} {e : TypeId} {v : Value} {n : Nat} {l : List Nat} (h : w.ownsRow base e 1 v n (l.map fun x : Nat => Value.int .i64 (x : Int))) (hQ : ∀ k, base ≤ k → Q k) :
    ∃ A c, v = .slice A l.length c ∧ n = l.length ∧ l.length ≤ c ∧ c ≤ maxLen ∧ SlQ w Q A l c := by
  obtain ⟨h1, h2⟩ := h
  have hn : n = l.length := by simpa using h1.symm
  subst hn
  rcases h2 with ⟨rfl, h0⟩ | ⟨g, cap, cur, rfl, hb, hh, hc, hm, hz, ht⟩
  · exact ⟨none, 0, by rw [h0], rfl, by omega, by unfold maxLen; omega, by omega, fun h => by omega⟩
  · refine ⟨some ⟨g, 0, none⟩, cap, rfl, rfl, hc, hm, hc, fun _ => ⟨g, 0, rfl, hQ g hb, (Array.getElem?_eq_some_iff.1 hh).1, fun j hj => ?_⟩⟩
    rw [cell_of_row w g (0 + j) cur e (0, 0) hh]
    have : (l.map fun x : Nat => Value.int .i64 (x : Int))[j]? = cur[j]? := by
      rw [← ht, List.getElem?_take]; simp; omega
    rw [Nat.zero_add, ← this]
    simp [hj, nth_eq hj]

set_option maxRecDepth 100000 in
set_option maxHeartbeats 800000 in
theorem implField (Q : Nat → Prop) (F : Fld) (hF : Six F) (w : World) (hQ : ∀ k, w.heap.size ≤ k → Q k) :
    Calls Try.prog 31 #[fv F] w fun e w' => ∃ f, e = .returned (.pointer (some ⟨f, 0, none⟩)) ∧ GFQ w' Q f F ∧ Below w.heap.size w w' ∧ w.heap.size ≤ f := by
  obtain ⟨b1, b2, b3, b4⟩ := hF.bounds
  unfold fv
  have hb0 : Below w.heap.size w (w.alloc (.cells #[.int .i64 F.prim, .int .i64 F.size, .int .i64 F.base] 23)) := (Below.refl _ _).alloc (Nat.le_refl _) _
  have HG := Lib.hid (gf_new Q F F.prim F.size F.base rfl rfl rfl b1 b2 b3 b4 (w.alloc (.cells #[.int .i64 F.prim, .int .i64 F.size, .int .i64 F.base] 23)) (fun k hk => hQ k (by simp at hk; omega)))
  go_enter Try.func31, Try.ntmps31
  go_wp2_with fail
  refine HG.out.mono ?_
  rintro e w1 ⟨f, rfl, hg, hb, hf⟩
  go_wp2_with fail
  go_ret
  exact ⟨f, rfl, hg, hb0.trans (hb.mono (by simp)), by simp at hf; omega⟩

set_option maxRecDepth 100000 in
set_option maxHeartbeats 800000 in
theorem implPoly (Q : Nat → Prop) (f : Nat) (A : Option Addr) (l : List Nat) (c : Nat) (w : World) (hQ : ∀ k, w.heap.size ≤ k → Q k) (hn : l.length < 1000000) (h : Rd w A l.length (fun j => .int .i64 (nth l j : Nat))) :
    Calls Try.prog 36 #[.pointer (some ⟨f, 0, none⟩), .slice A l.length c] w fun e w' => ∃ v x, e = .returned (.tuple #[v, x]) ∧ Below w.heap.size w w' ∧
      (l = [] → v = .pointer none ∧ IsErr x) ∧ (l ≠ [] → x = .nilIface ∧ ∃ p, v = .pointer (some ⟨p, 0, none⟩) ∧ PolyQ w' Q p f (tidy l)) := by
  go_enter Try.func36, Try.ntmps36
  go_wp2_with (at_builtin; refine wpList_copyTo _ _ 29 w.heap.size 3 (.int .i64 0) 8 _ 0 [] _ _ _ _ rfl rfl rfl rfl Try.underlying29 Try.infoInt rfl (fun j _ => rfl) (by decide) (World.ownsRow_nil _ _ _ _) h (by omega) (Nat.le_refl _) ?_)
  intro v' w1 hown hg hb
  have hrn := range_nth l
  rw [hrn] at hown
  obtain ⟨A', c', rfl, hl, hlc, hcm, hsl⟩ := slq_of_own (Q := Q) hown hQ
  rw [hl]
  clear hown hrn hl h hg
  by_cases hl0 : l = []
  · subst hl0
    go_wp2_with fail
    refine (poly_none f A' c' _).mono ?_
    rintro e w2 ⟨v, rfl, hv, hb2⟩
    go_wp2_with fail
    go_ret2
    exact ⟨_, _, rfl, hb.trans (hb2.mono hb.size), rfl, hv⟩
  · have HP := Lib.hid (poly_new Q f A' l c' w1 (fun k hk => hQ k (Nat.le_trans hb.size hk)) hl0 (by omega) hsl)
    clear hsl
    go_wp2_with fail
    refine HP.out.mono ?_
    rintro e w2 ⟨p, rfl, hp, hb2, _⟩
    go_wp2_with fail
    go_ret2
    exact ⟨_, _, rfl, hb.trans (hb2.mono hb.size), fun h => absurd h hl0, fun _ => ⟨rfl, p, rfl, hp⟩⟩

set_option maxRecDepth 100000 in
set_option maxHeartbeats 800000 in
theorem polyCoeffs (Q : Nat → Prop) (p f : Nat) (cs : List Nat) (w : World) (h : PolyQ w Q p f cs) :
    Calls Try.prog 48 #[.pointer (some ⟨p, 0, none⟩)] w fun e w' => ∃ A c, e = .returned (.slice A cs.length c) ∧ SlQ w Q A cs c ∧ w = w' := by
  obtain ⟨⟨cb, off, cap, h1, h2, h3, h4, h5⟩, hp, hne⟩ := h
  have hc : w.cell? ⟨p, 1, none⟩ = some (.slice (some ⟨cb, off, none⟩) cs.length cap) := by rw [cell_of_row w p 1 _ _ _ h1]; rfl
  have H5 := Lib.hid h5
  clear h5 h1
  go_enter Try.func48, Try.ntmps48
  go_wp2_with fail
  go_ret
  exact ⟨_, _, rfl, ⟨h4, fun _ => ⟨cb, off, rfl, h2, h3, H5.out⟩⟩, rfl⟩

set_option maxRecDepth 100000 in
set_option maxHeartbeats 800000 in
theorem polyDegree (Q : Nat → Prop) (p f : Nat) (cs : List Nat) (w : World) (h : PolyQ w Q p f cs) (hn : cs.length < 1000000) :
    Calls Try.prog 37 #[.pointer (some ⟨p, 0, none⟩)] w fun e w' => e = .returned (.int .i64 ((cs.length - 1 : Nat) : Int)) ∧ w = w' := by
  obtain ⟨⟨cb, off, cap, h1, h2, h3, h4, h5⟩, hp, hne⟩ := h
  have hpos : 0 < cs.length := List.length_pos_iff.2 hne
  have hc : w.cell? ⟨p, 1, none⟩ = some (.slice (some ⟨cb, off, none⟩) cs.length cap) := by rw [cell_of_row w p 1 _ _ _ h1]; rfl
  have he : ((cs.length : Int) - 1) = ((cs.length - 1 : Nat) : Int) := by omega
  have HE := Lib.hid he
  clear h5 h1 he
  go_enter Try.func37, Try.ntmps37
  go_wp2_with fail
  go_ret
  exact ⟨by rw [← HE.out]; rfl, rfl⟩

/-- The list of a polynomial, copied. -/
theorem implList (Q : Nat → Prop) (p f : Nat) (cs : List Nat) (w : World) (h : PolyQ w Q p f cs) (hn : cs.length < 1000000) :
    Calls Try.prog 35 #[.pointer (some ⟨p, 0, none⟩), .nilIface] w fun e w' => ∃ v, e = .returned (.tuple #[v, .bool true]) ∧ w'.ownsRow w.heap.size 3 1 v cs.length (cs.map fun x : Nat => Value.int .i64 (x : Int)) ∧ Below w.heap.size w w' := by
  have HP := Lib.hid (polyCoeffs Q p f cs w h)
  clear h
  go_enter Try.func35, Try.ntmps35
  go_wp2_with fail
  refine HP.out.mono ?_
  rintro e w1 ⟨A, c, rfl, hs, rfl⟩
  go_wp2_with (at_builtin; refine wpList_copyTo _ _ 29 w.heap.size 3 (.int .i64 0) 8 _ 0 [] _ _ _ _ rfl rfl rfl rfl Try.underlying29 Try.infoInt rfl (fun j _ => rfl) (by decide) (World.ownsRow_nil _ _ _ _) hs.rd (by omega) (Nat.le_refl _) ?_)
  intro v' w1 hown hg hb
  rw [range_nth] at hown
  have HO := Lib.hid hown
  clear hown
  go_wp2_with fail
  go_ret2
  exact ⟨_, rfl, by simpa using HO.out, hb⟩
theorem implList_err (x : Value) (hx : IsErr x) (v : Value) (w : World) :
    Calls Try.prog 35 #[v, x] w fun e w' => e = .returned (.tuple #[.slice none 0 0, .bool false]) ∧ w = w' := by
  obtain ⟨b, rfl⟩ := hx
  have hneq : ∀ W, (binOp .neq 58 (.iface 105 (.pointer (some ⟨b, 0, none⟩))) .nilIface).run Try.prog W = .ok (.bool true) W := fun W => run_neq_held_nil W _ _ _ errIface
  go_enter Try.func35, Try.ntmps35
  go_wp2_with fail
  go_ret2
  exact ⟨rfl, rfl⟩
end Go.Proofs.Ythagfgfefkpikaa
