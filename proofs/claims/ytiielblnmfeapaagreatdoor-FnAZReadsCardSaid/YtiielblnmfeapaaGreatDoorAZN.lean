/-
  Correction of a symbol's words: plain laws, the four fields, the getters. No condition beyond the bounds that each theorem states.
-/
import Derived.Test.YtiielblnmfeapaaGreatDoorAZK
import Derived.Test.YtiielblnmfeapaaGreatDoorRSG7
import Derived.Test.YtiielblnmfeapaaGreatDoorRSK
import Derived.Test.YtiielblnmfeapaaGreatDoorAZD
namespace Go.Proofs.YtiielblnmfeapaaGreatDoor
open Go.RowKit Go.Qz Go.Qz.RS
set_option linter.unusedVariables false

/-- A word of a row of words, read as bits. -/
theorem vl_word (X : List Bool) (ws : List Nat) (wv : Nat) (hx : ∀ j, nth ws j < 2 ^ wv) (i : Nat) (hi : i < ws.length) : vl (X ++ ws.flatMap (bitsOf · wv)) (X.length + i * wv) wv = nth ws i := by
  have key : ∀ (l : List Nat) (i : Nat), i < l.length → (l.flatMap (bitsOf · wv)).drop (i * wv) = bitsOf (nth l i) wv ++ (l.drop (i + 1)).flatMap (bitsOf · wv) := by
    intro l
    induction l with
    | nil => intro i h; simp at h
    | cons a l ih =>
      intro i h
      cases i with
      | zero => simp [nth]
      | succ i =>
        have h2 := ih i (by simpa using h)
        rw [List.flatMap_cons, show (i + 1) * wv = (bitsOf a wv).length + i * wv by rw [bitsOf_len, Nat.add_mul]; omega, List.drop_append, List.drop_succ_cons]
        simp only [Nat.add_sub_cancel_left]
        rw [h2, List.drop_eq_nil_of_le (by omega)]
        rfl
  refine vl_bits _ _ _ _ ((ws.drop (i + 1)).flatMap (bitsOf · wv)) ?_ (hx i)
  rw [List.drop_append, Nat.add_sub_cancel_left, List.drop_eq_nil_of_le (by omega), List.nil_append]
  exact key ws i hi
/-- The first q of a row's elements, then zeros. -/
def fillTo (U : List Bool) (q : Nat) : List Bool := U.take q ++ List.replicate (U.length - q) false
theorem fillTo_len (U : List Bool) (q : Nat) (hq : q ≤ U.length) : (fillTo U q).length = U.length := by
  unfold fillTo; simp; omega
theorem fillTo_set (U : List Bool) (q : Nat) (hq : q < U.length) : (fillTo U q).set q (nthB U q) = fillTo U (q + 1) := by
  unfold fillTo
  rw [List.set_append, List.length_take, if_neg (by omega), show q - min q U.length = 0 by omega, show U.length - q = (U.length - (q + 1)) + 1 by omega, List.replicate_succ, List.set_cons_zero, List.take_succ_eq_append_getElem hq, nthB_eq hq, List.append_assoc]
  rfl
theorem fillTo_zero (U : List Bool) : fillTo U 0 = List.replicate U.length false := by unfold fillTo; simp
theorem fillTo_all (U : List Bool) : fillTo U U.length = U := by unfold fillTo; simp
theorem bitsOf_zero (d : Nat) : bitsOf 0 d = List.replicate d false := by
  unfold bitsOf
  apply List.ext_getElem <;> simp
theorem bitsOf_ones (d : Nat) : bitsOf (2 ^ d - 1) d = List.replicate d true := by
  unfold bitsOf
  apply List.ext_getElem
  · simp
  · intro j h1 h2
    simp only [List.getElem_map, List.getElem_range, List.getElem_replicate]
    rw [Nat.testBit_two_pow_sub_one]
    simp at h1 ⊢
    omega
theorem unst_append (wv : Nat) (a b : List Nat) : unst wv (a ++ b) = unst wv a ++ unst wv b := by unfold unst; rw [List.flatMap_append]
/-- Where the bits of a word stand. -/
def offU (wv : Nat) (ws : List Nat) (i : Nat) : Nat := (unst wv (ws.take i)).length
theorem offU_zero (wv : Nat) (ws : List Nat) : offU wv ws 0 = 0 := by unfold offU unst; simp
theorem offU_all (wv : Nat) (ws : List Nat) : offU wv ws ws.length = (unst wv ws).length := by unfold offU; rw [List.take_length]
theorem offU_succ (wv : Nat) (ws : List Nat) (i : Nat) (hi : i < ws.length) : offU wv ws (i + 1) = offU wv ws i + (unW wv (nth ws i)).length := by
  unfold offU
  rw [take_nthK hi, unst_append, List.length_append]
  congr 1
  simp [unst]
theorem offU_le (wv : Nat) (ws : List Nat) (i : Nat) : offU wv ws i ≤ (unst wv ws).length := by
  unfold offU
  have h := congrArg List.length (unst_append wv (ws.take i) (ws.drop i))
  rw [List.take_append_drop, List.length_append] at h
  omega
theorem unst_at (wv : Nat) (ws : List Nat) (i j : Nat) (hi : i < ws.length) (hj : j < (unW wv (nth ws i)).length) : offU wv ws i + j < (unst wv ws).length ∧ nthB (unst wv ws) (offU wv ws i + j) = nthB (unW wv (nth ws i)) j := by
  have e : unst wv ws = unst wv (ws.take i) ++ (unW wv (nth ws i) ++ unst wv (ws.drop (i + 1))) := by
    have h := unst_append wv (ws.take (i + 1)) (ws.drop (i + 1))
    rw [List.take_append_drop, take_nthK hi, unst_append, List.append_assoc] at h
    rw [h]
    congr 2
    simp [unst]
  refine ⟨?_, ?_⟩
  · rw [e]; unfold offU; simp only [List.length_append]; omega
  · rw [e]
    unfold offU
    exact nthB_drop (M := unW wv (nth ws i)) (rest := unst wv (ws.drop (i + 1))) (by rw [List.drop_append, Nat.sub_self, List.drop_length]; rfl) hj
/-- How many of the first words have a bit that is left out. -/
def cntS (wv : Nat) (ws : List Nat) (i : Nat) : Nat := wv * min i ws.length - offU wv ws i
theorem unW_len {wv : Nat} (hw : 4 ≤ wv) (x : Nat) : ((x = 1 ∨ x = 2 ^ wv - 2) → (unW wv x).length = wv - 1) ∧ (¬ (x = 1 ∨ x = 2 ^ wv - 2) → (unW wv x).length = wv) := by
  unfold unW
  exact ⟨fun h => by rw [if_pos h, bitsOf_len], fun h => by rw [if_neg h, bitsOf_len]⟩
theorem offU_bd {wv : Nat} (hw : 4 ≤ wv) (ws : List Nat) : ∀ i, i ≤ ws.length → offU wv ws i ≤ wv * i
  | 0, _ => by rw [offU_zero]; omega
  | i + 1, h => by
    have ih := offU_bd hw ws i (by omega)
    rw [offU_succ wv ws i (by omega), Nat.mul_add]
    have h2 := unW_len hw (nth ws i)
    by_cases hx : nth ws i = 1 ∨ nth ws i = 2 ^ wv - 2
    · rw [h2.1 hx]; omega
    · rw [h2.2 hx]; omega
theorem cntS_succ {wv : Nat} (hw : 4 ≤ wv) (ws : List Nat) (i : Nat) (hi : i < ws.length) : ((nth ws i = 1 ∨ nth ws i = 2 ^ wv - 2) → cntS wv ws (i + 1) = cntS wv ws i + 1) ∧ (¬ (nth ws i = 1 ∨ nth ws i = 2 ^ wv - 2) → cntS wv ws (i + 1) = cntS wv ws i) := by
  unfold cntS
  have h1 := offU_bd hw ws i (by omega)
  have h2 := unW_len hw (nth ws i)
  rw [offU_succ wv ws i hi, show min (i + 1) ws.length = i + 1 by omega, show min i ws.length = i by omega, Nat.mul_add]
  exact ⟨fun h => by rw [h2.1 h]; omega, fun h => by rw [h2.2 h]; omega⟩
theorem cntS_zero (wv : Nat) (ws : List Nat) : cntS wv ws 0 = 0 := by unfold cntS; simp
theorem cntS_all {wv : Nat} (hw : 4 ≤ wv) (ws : List Nat) : wv * ws.length - cntS wv ws ws.length = (unst wv ws).length ∧ cntS wv ws ws.length ≤ wv * ws.length := by
  unfold cntS
  have h1 := offU_bd hw ws ws.length (Nat.le_refl _)
  rw [offU_all] at h1 ⊢
  rw [show min ws.length ws.length = ws.length by omega]
  omega
/-- The bits of a word with a bit left out are all alike. -/
theorem unW_same {wv : Nat} (hw : 4 ≤ wv) {x : Nat} (h : x = 1 ∨ x = 2 ^ wv - 2) {j : Nat} (hj : j < wv - 1) : nthB (unW wv x) j = decide (1 < x) := by
  have hp : 2 ^ wv = 2 * 2 ^ (wv - 1) := by
    have := Nat.pow_succ 2 (wv - 1)
    rw [show (wv - 1).succ = wv by omega] at this; omega
  have hp2 : 8 ≤ 2 ^ (wv - 1) := by
    have : 2 ^ 3 ≤ 2 ^ (wv - 1) := Nat.pow_le_pow_right (by omega) (by omega)
    omega
  unfold unW
  rw [if_pos h]
  rcases h with rfl | rfl
  · rw [show 1 / 2 = 0 by rfl, bitsOf_zero, nthB_eq (by simpa using hj)]; simp
  · rw [show (2 ^ wv - 2) / 2 = 2 ^ (wv - 1) - 1 by omega, bitsOf_ones, nthB_eq (by simpa using hj)]; simp; omega
theorem unW_bit {wv x j : Nat} (h : ¬ (x = 1 ∨ x = 2 ^ wv - 2)) (hj : j < wv) : nthB (unW wv x) j = x.testBit (wv - 1 - j) := by
  unfold unW
  rw [if_neg h, bitsOf_at _ _ _ hj]
theorem and_pow (x b : Nat) : x &&& 2 ^ b = if x.testBit b then 2 ^ b else 0 := by
  apply Nat.eq_of_testBit_eq
  intro i
  rw [Nat.testBit_and, Nat.testBit_two_pow]
  by_cases h : b = i
  · subst h
    cases hx : x.testBit b <;> simp
  · cases hx : x.testBit b <;> simp [h]

theorem PolyQ.low {w : World} {Q : Nat → Prop} {p f : Nat} {cs : List Nat} (h : PolyQ w Q p f cs) : PolyQ w (fun k => k < w.heap.size) p f cs := by
  have h0 := h.lt
  obtain ⟨⟨cb, off, cap, h1, h2, h3, h4, h5⟩, hp, hne⟩ := h
  exact ⟨⟨cb, off, cap, h1, h3, h3, h4, h5⟩, h0, hne⟩
theorem GFQ.low {w : World} {Q : Nat → Prop} {f : Nat} {F : Fld} (h : GFQ w Q f F) : GFQ w (fun k => k < w.heap.size) f F := by
  obtain ⟨⟨eb, lb, z, o, h1, h2, h3, h4, h5, h6, h7⟩, h8⟩ := h
  exact ⟨⟨eb, lb, z, o, h1, h2, h2.lt, h4, h4.lt, h6.low, h7.low⟩, (Array.getElem?_eq_some_iff.1 h1).1⟩
def GfPost (F : Fld) (w : World) (e : Ending) (w' : World) : Prop := ∃ f, e = .returned (.pointer (some ⟨f, 0, none⟩)) ∧ GFQ w' (fun k => k < w'.heap.size) f F ∧ Below w.heap.size w w'
set_option maxRecDepth 100000 in
theorem gfDM (w : World) : Calls Tryz.prog 84 #[] w (GfPost (six 2) w) := by
  go_enter Tryz.func84, Tryz.ntmps84
  go_wp2_with fail
  refine (gf_new (fun _ => True) (six 2) _ _ _ rfl rfl rfl (by decide) (by decide) (by decide) (by decide) w (fun _ _ => trivial)).mono ?_
  rintro e w1 ⟨f, rfl, hg, hb, _⟩
  go_wp2_with fail
  go_ret
  exact ⟨f, rfl, hg.low, hb⟩
set_option maxRecDepth 100000 in
theorem detNew (v : Option Addr) (w : World) :
    Calls Tryz.prog 45 #[.pointer v, .slice none 0 0] w fun e w' => ∃ d, e = .returned (.pointer d) ∧ Below w.heap.size w w' := by
  go_enter Tryz.func45, Tryz.ntmps45
  go_wp2_with fail
  go_ret
  exact ⟨_, rfl, (Below.refl _ _).alloc (Nat.le_refl _) _⟩
set_option maxRecDepth 100000 in
theorem gfData6 (w : World) : Calls Tryz.prog 57 #[] w (GfPost (six 1) w) := by
  go_enter Tryz.func57, Tryz.ntmps57
  go_wp2_with fail
  refine (gf_new (fun _ => True) (six 1) _ _ _ rfl rfl rfl (by decide) (by decide) (by decide) (by decide) w (fun _ _ => trivial)).mono ?_
  rintro e w1 ⟨f, rfl, hg, hb, _⟩
  go_wp2_with fail
  go_ret
  exact ⟨f, rfl, hg.low, hb⟩
set_option maxRecDepth 100000 in
theorem gfData8 (w : World) : Calls Tryz.prog 58 #[] w (GfPost (six 2) w) := by
  go_enter Tryz.func58, Tryz.ntmps58
  go_wp2_with fail
  refine (gfDM w).mono ?_
  rintro e w1 ⟨f, rfl, hg, hb⟩
  go_wp2_with fail
  go_ret
  exact ⟨f, rfl, hg, hb⟩
set_option maxRecDepth 100000 in
theorem gfData10 (w : World) : Calls Tryz.prog 59 #[] w (GfPost (six 4) w) := by
  go_enter Tryz.func59, Tryz.ntmps59
  go_wp2_with fail
  refine (gf_new (fun _ => True) (six 4) _ _ _ rfl rfl rfl (by decide) (by decide) (by decide) (by decide) w (fun _ _ => trivial)).mono ?_
  rintro e w1 ⟨f, rfl, hg, hb, _⟩
  go_wp2_with fail
  go_ret
  exact ⟨f, rfl, hg.low, hb⟩
set_option maxRecDepth 100000 in
theorem gfData12 (w : World) : Calls Tryz.prog 60 #[] w (GfPost (six 5) w) := by
  go_enter Tryz.func60, Tryz.ntmps60
  go_wp2_with fail
  refine (gf_new (fun _ => True) (six 5) _ _ _ rfl rfl rfl (by decide) (by decide) (by decide) (by decide) w (fun _ _ => trivial)).mono ?_
  rintro e w1 ⟨f, rfl, hg, hb, _⟩
  go_wp2_with fail
  go_ret
  exact ⟨f, rfl, hg.low, hb⟩
set_option maxRecDepth 100000 in
theorem nbLayers (R : Nat) (a0 a1 a2 a3 : Value) (w : World) (h : Arr w 81 R [a0, a1, a2, a3]) :
    Calls Tryz.prog 54 #[.pointer (some ⟨R, 0, none⟩)] w fun e w' => e = .returned a3 ∧ w = w' := by
  have c := h.cell? 3
  simp only [List.getElem?_cons_zero, List.getElem?_cons_succ] at c
  go_enter Tryz.func54, Tryz.ntmps54
  go_wp2_with fail
  go_ret
  exact ⟨rfl, rfl⟩
set_option maxRecDepth 100000 in
theorem nbData (R : Nat) (a0 a1 a2 a3 : Value) (w : World) (h : Arr w 81 R [a0, a1, a2, a3]) :
    Calls Tryz.prog 61 #[.pointer (some ⟨R, 0, none⟩)] w fun e w' => e = .returned a2 ∧ w = w' := by
  have c := h.cell? 2
  simp only [List.getElem?_cons_zero, List.getElem?_cons_succ] at c
  go_enter Tryz.func61, Tryz.ntmps61
  go_wp2_with fail
  go_ret
  exact ⟨rfl, rfl⟩
set_option maxRecDepth 100000 in
theorem azDet (v : Option Addr) (cm : Bool) (n l : Nat) (w : World) :
    Calls Tryz.prog 16 #[.pointer v, .slice none 0 0, .bool cm, .int .i64 n, .int .i64 l] w fun e w' => ∃ R d, e = .returned (.pointer (some ⟨R, 0, none⟩)) ∧ Arr w' 81 R [.pointer d, .bool cm, .int .i64 n, .int .i64 l] ∧ Below w.heap.size w w' := by
  go_enter Tryz.func16, Tryz.ntmps16
  go_wp2_with fail
  have H := Lib.hid (detNew v w)
  refine H.out.mono ?_
  rintro e w1 ⟨d, rfl, hb⟩
  go_wp2_with fail
  go_ret
  exact ⟨_, d, rfl, Arr.new _ _ _, hb.alloc hb.size _⟩
set_option maxRecDepth 100000 in
theorem dec_newA (f : Nat) (w : World) :
    Calls Tryz.prog 64 #[.pointer (some ⟨f, 0, none⟩)] w fun e w' => ∃ D, e = .returned (.pointer (some ⟨D, 0, none⟩)) ∧ Arr w' 150 D [.pointer (some ⟨f, 0, none⟩)] ∧ Below w.heap.size w w' ∧ w.heap.size ≤ D := by
  go_enter Tryz.func64, Tryz.ntmps64
  go_wp2_with fail
  go_ret
  exact ⟨w.heap.size, rfl, Arr.new w _ [.pointer (some ⟨f, 0, none⟩)], (Below.refl _ _).alloc (Nat.le_refl _) _, Nat.le_refl _⟩
end Go.Proofs.YtiielblnmfeapaaGreatDoor
