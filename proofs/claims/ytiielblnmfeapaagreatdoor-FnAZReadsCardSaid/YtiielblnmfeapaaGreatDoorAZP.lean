/-
  The writer of Aztec messages, walked: put, width, azLatches. No condition beyond the bounds that each theorem states.
-/
import Derived.Test.YtiielblnmfeapaaGreatDoorAZM
import Derived.Test.YtiielblnmfeapaaGreatDoorGRD
import Derived.Deep.RegionLaw
import Derived.BigRegion
import Derived.Outline
namespace Go.Proofs.YtiielblnmfeapaaGreatDoor
open Go.RowKit Go.Qz
set_option linter.unusedVariables false

theorem Tryz.infoBoolP : (Tryz.prog.info? 4).map (fun i => (i.zero, i.size, i.bytes)) = some (some (.bool false), 1, 1) := by kernel_rfl

/-- A writer at block p: its bits, its text, its mode. -/
structure Wr (w : World) (base p : Nat) (v : Value) (bits : List Bool) (s : ByteArray) (mode : Nat) : Prop where
  ar : Arr w 61 p [v, .string s, .int .i64 mode]
  own : w.ownsRow base 4 1 v bits.length (bits.map Value.bool)
theorem Wr.ne {w : World} {base p : Nat} {v : Value} {bits : List Bool} {s : ByteArray} {mode : Nat} (h : Wr w base p v bits s mode) {k : Nat} (hk : v.ownBlock = some k) : k ≠ p := by
  intro e
  subst e
  exact own_ne_arr h.own h.ar (by decide) hk.symm
theorem Wr.cells {w : World} {base p : Nat} {v : Value} {bits : List Bool} {s : ByteArray} {mode : Nat} (h : Wr w base p v bits s mode) : w.cell? ⟨p, 0, none⟩ = some v ∧ w.cell? ⟨p, 1, none⟩ = some (.string s) ∧ w.cell? ⟨p, 2, none⟩ = some (.int .i64 mode) := by
  have a0 := h.ar.cell? 0
  have a1 := h.ar.cell? 1
  have a2 := h.ar.cell? 2
  simp only [List.getElem?_cons_zero, List.getElem?_cons_succ] at a0 a1 a2
  exact ⟨a0, a1, a2⟩
theorem Wr.mod {S : Nat → Prop} {w w' : World} {base p : Nat} {v : Value} {bits : List Bool} {s : ByteArray} {mode : Nat} (h : Wr w base p v bits s mode) (hm : Mod S w w') (hp : ¬ S p) (hv : ∀ k, v.ownBlock = some k → ¬ S k) : Wr w' base p v bits s mode :=
  ⟨h.ar.mod hm hp, own_mod h.own hm hv⟩
theorem Wr.below {w w' : World} {base p : Nat} {v : Value} {bits : List Bool} {s : ByteArray} {mode : Nat} (h : Wr w base p v bits s mode) (hb : Below w.heap.size w w') : Wr w' base p v bits s mode :=
  h.mod (Mod.of_below (S := fun _ => False) hb) (fun h => h) (fun _ _ h => h)
/-- What a step of the writer may turn. -/
def WB (p : Nat) (v : Value) (k : Nat) : Prop := k = p ∨ v.ownBlock = some k
def PutPost (base p : Nat) (v : Value) (bits : List Bool) (s : ByteArray) (mode : Nat) (w : World) (e : Ending) (w' : World) : Prop :=
  e = .returned (.tuple #[]) ∧ ∃ v', Wr w' base p v' bits s mode ∧ Mod (WB p v) w w' ∧ ∀ k, v'.ownBlock = some k → v.ownBlock = some k ∨ w.heap.size ≤ k

theorem one_bit (x b : Nat) (h : x % 2 = b) : bits .and .i64 (x : Int) 1 = (b : Int) ∨ ¬ x < 9223372036854775808 := by
  by_cases hx : x < 9223372036854775808
  · left
    have := i64_and x 1 hx (by omega)
    rw [Nat.and_one_is_mod, h] at this
    exact this
  · exact .inr hx

set_option maxRecDepth 100000 in
set_option maxHeartbeats 3200000 in
theorem put (base p : Nat) (v : Value) (bs : List Bool) (s : ByteArray) (mode x m : Nat) (hx : x < 100000) (hm : m ≤ 12) (hbl : bs.length < 10000000) (w : World) (hb : base ≤ w.heap.size) (h : Wr w base p v bs s mode) :
    Calls Tryz.prog 20 #[.pointer (some ⟨p, 0, none⟩), .int .i64 x, .int .i64 m] w (PutPost base p v (bs ++ bitsOf x m) s mode w) := by
  have HW := Lib.hid h
  have HBS := Lib.hid hb
  clear h hb
  go_enter Tryz.func20, Tryz.ntmps20
  go_wp2_with fail
  go_loopw [6] (fun a wr => ∃ (t : Nat) (j : Int) (v1 : Value), t ≤ m ∧ j = (m : Int) - 1 - t ∧ a = .int .i64 j ∧ Hid (Wr wr base p v1 (bs ++ (List.range t).map fun j => x.testBit (m - 1 - j)) s mode) ∧ Hid (Mod (WB p v) w wr) ∧ Hid (∀ k, v1.ownBlock = some k → v.ownBlock = some k ∨ w.heap.size ≤ k)) (fun a _ => (intOf a + 1).toNat)
  case atStart => exact ⟨0, (m : Int) - 1, v, by omega, by omega, rfl, Lib.hid (by simpa using HW.out), Lib.hid (Mod.refl _), Lib.hid (fun k hk => .inl hk)⟩
  case round =>
    obtain ⟨t, j, v1, ht, hj, rfl, HWR, HMO, HV⟩ := hrel
    by_cases hlt : t < m
    · obtain ⟨b, hbq⟩ : ∃ b, b = m - 1 - t := ⟨_, rfl⟩
      obtain rfl : j = (b : Int) := by omega
      have hb12 : b < 12 := by omega
      have hj0 : (0 : Int) ≤ (b : Int) := by omega
      obtain ⟨c0, c1, c2⟩ := HWR.out.cells
      have hf0 := HWR.out.ar.free 0
      have hown := HWR.out.own
      obtain ⟨y, hy⟩ : ∃ y, y = x / 2 ^ b := ⟨_, rfl⟩
      have hyl : y < 100000 := by rw [hy]; exact Nat.lt_of_le_of_lt (Nat.div_le_self _ _) hx
      have hyi : (x : Int) / 2 ^ b = (y : Int) := by rw [hy]; simp
      obtain ⟨z, hz⟩ : ∃ z, z = y % 2 := ⟨_, rfl⟩
      have hand : bits .and .i64 (y : Int) 1 = (z : Int) := (one_bit y z hz.symm).resolve_right (by omega)
      have hbit : x.testBit b = decide (z = 1) := by rw [Nat.testBit_eq_decide_div_mod_eq, ← hy, ← hz]
      have hz2 : z = 0 ∨ z = 1 := by omega
      have hw1 : IntKind.i64.wrap (y : Int) = (y : Int) := by rw [IntKind.wrap_i64]; omega
      have HBIT := Lib.hid hbit
      have HBQ := Lib.hid hbq
      clear hy hz hbit hbq hj c1 c2
      obtain ⟨L, hL⟩ : ∃ L, L = bs ++ (List.range t).map fun j => x.testBit (m - 1 - j) := ⟨_, rfl⟩
      have hLl : L.length < 20000000 := by rw [hL, List.length_append]; simp; omega
      have HLS : Hid (bs ++ (List.range (t + 1)).map (fun j => x.testBit (m - 1 - j)) = L ++ [x.testBit b]) := Lib.hid (by rw [List.range_succ, List.map_append, ← List.append_assoc, ← hL, HBQ.out]; rfl)
      rw [← hL] at HWR hown
      have hbw : base ≤ wr.heap.size := by have := HMO.out.size; have := HBS.out; omega
      clear hL
      obtain rfl | rfl := hz2
      all_goals
        go_wp2_with (at_builtin; refine wpList_pushAt _ _ 35 base 4 (.bool false) 1 _ L.length _ _ rfl rfl rfl rfl Tryz.underlying35 Tryz.infoBoolP rfl rfl (by decide) hown (by omega) hbw ?_)
        intro v5 w5 hown5 hg5 hb5 hat5
        obtain ⟨A5, k5, rfl, _, _, _⟩ := Rd.of_own hown5
        obtain ⟨v5, hv5⟩ : ∃ v5, v5 = Value.slice A5 (L.length + 1) k5 := ⟨_, rfl⟩
        have HVE := Lib.hid hv5
        rw [← hv5] at hown5 hat5
        clear hv5
        have HA5 : Hid (Arr w5 61 p [_, .string s, .int .i64 mode]) := Lib.hid (HWR.out.ar.keep (hg5.block p HWR.out.ar.lt (fun e => HWR.out.ne e.symm rfl)))
        have hf5 := HA5.out.free 0
        have c5 := HA5.out.cell? 0
        rw [List.getElem?_cons_zero] at c5
        have HW5 : Hid (Wr (w5.setCell ⟨p, 0, none⟩ v5) base p v5 (bs ++ (List.range (t + 1)).map (fun j => x.testBit (m - 1 - j))) s mode) := Lib.hid (by
          rw [HLS.out, HBIT.out]
          refine ⟨HA5.out.set_ 0 v5, own_mod (S := (· = p)) ?_ (Mod.set1 w5 p 0 v5) (fun k hk e => ?_)⟩
          · rw [List.length_append, List.map_append]; exact hown5
          · rcases hat5 with h | h
            · exact HWR.out.ne (by rw [← h]; exact hk) e
            · rw [h] at hk; injection hk with hk
              have := HWR.out.ar.lt
              have e : k = p := e
              omega)
        have HM5 : Hid (Mod (WB p v) w (w5.setCell ⟨p, 0, none⟩ v5)) := Lib.hid ((HMO.out.then (Mod.of_grown hg5) (fun i hi hh => by
          rcases HV.out i hh with h | h
          · exact .inr h
          · omega)).setCell (p := ⟨p, 0, none⟩) (.inl (.inl rfl)) v5)
        have HV5 : Hid (∀ k, v5.ownBlock = some k → v.ownBlock = some k ∨ w.heap.size ≤ k) := Lib.hid (fun k hk => by
          rcases hat5 with h | h
          · exact HV.out k (by rw [← h]; exact hk)
          · rw [h] at hk; injection hk with hk
            have := HMO.out.size
            exact .inr (by omega))
        clear hown5 hg5 hb5 hat5 hown HWR HMO HV c0 hf0
        rw [HVE.out] at HW5 HM5 HV5
        go_wp2_with fail
        go_roundw
        case rel => exact ⟨t + 1, (b : Int) - 1, _, by omega, by have := HBQ.out; omega, rfl, HW5, HM5, HV5⟩
        case measure => simp [intOf]
    · obtain rfl : t = m := by omega
      obtain rfl : j = -1 := by omega
      have HW9 : Hid (Wr wr base p v1 (bs ++ bitsOf x t) s mode) := HWR
      clear HWR
      go_wp2_with fail
      go_end0
      exact ⟨rfl, v1, HW9.out, HMO.out, HV.out⟩

set_option maxRecDepth 100000 in
theorem width (base p : Nat) (v : Value) (bs : List Bool) (s : ByteArray) (mode : Nat) (w : World) (h : Wr w base p v bs s mode) :
    Calls Tryz.prog 22 #[.pointer (some ⟨p, 0, none⟩)] w fun e w' => e = .returned (.int .i64 (wd mode : Nat)) ∧ w = w' := by
  obtain ⟨c0, c1, c2⟩ := h.cells
  by_cases h4 : mode = 4
  · subst h4
    go_enter Tryz.func22, Tryz.ntmps22
    go_wp2_with fail
    go_ret
    exact ⟨rfl, rfl⟩
  · have h5 : ((mode : Int) == 4) = false := by simp; omega
    have h6 : wd mode = 5 := by unfold wd; rw [if_neg h4]
    rw [h6]
    clear h4 h6
    go_enter Tryz.func22, Tryz.ntmps22
    go_wp2_with fail
    go_ret
    exact ⟨rfl, rfl⟩

/-- The numbers by which one leaves a mode, and where to. -/
def latL (m : Nat) : List Nat := if m = 0 then [28, 29, 30] else if m = 1 then [29, 30] else if m = 2 then [28, 29, 30] else if m = 3 then [31] else [14]
def latM (m : Nat) : List Nat := if m = 0 then [1, 2, 4] else if m = 1 then [2, 4] else if m = 2 then [1, 0, 3] else if m = 3 then [0] else [0]
theorem lat_ok : ∀ m, m < 5 → ∀ j, j < (latL m).length → latTo m (nth (latL m) j) = some (nth (latM m) j) := by decide
theorem lat_lens : ∀ m, m < 5 → (latL m).length = (latM m).length ∧ 0 < (latL m).length ∧ (latL m).length ≤ 3 := by decide
def ints_ (l : List Nat) : List Value := l.map fun x : Nat => Value.int .i64 x
def LatPost (m : Nat) (w : World) (e : Ending) (w' : World) : Prop := ∃ b1 b2, e = .returned (.tuple #[.slice (some ⟨b1, 0, none⟩) (latL m).length (latL m).length, .slice (some ⟨b2, 0, none⟩) (latM m).length (latM m).length]) ∧ IA w' 3 b1 (latL m) ∧ IA w' 3 b2 (latM m) ∧ Below w.heap.size w w' ∧ w.heap.size ≤ b1 ∧ w.heap.size ≤ b2
theorem lat_post (w : World) (m : Nat) : LatPost m w (.returned (.tuple #[.slice (some ⟨w.heap.size, 0, none⟩) (latL m).length (latL m).length, .slice (some ⟨w.heap.size + 1, 0, none⟩) (latM m).length (latM m).length])) ((w.alloc (.cells ((latL m).map fun x : Nat => Value.int .i64 x).toArray 3)).alloc (.cells ((latM m).map fun x : Nat => Value.int .i64 x).toArray 3)) := by
  refine ⟨w.heap.size, w.heap.size + 1, rfl, ?_, ?_, ((Below.refl _ _).alloc (Nat.le_refl _) _).alloc (by simp) _, Nat.le_refl _, Nat.le_succ _⟩
  · exact Arr.below (B := w.heap.size + 1) (Arr.new w 3 ((latL m).map fun x : Nat => Value.int .i64 x)) ((Below.refl _ _).alloc (by simp) _) (by omega)
  · have := Arr.new (w.alloc (.cells ((latL m).map fun x : Nat => Value.int .i64 x).toArray 3)) 3 ((latM m).map fun x : Nat => Value.int .i64 x)
    show Arr _ _ _ _
    simpa using this
set_option maxRecDepth 100000 in
theorem latches (m : Nat) (hm : m < 5) (w : World) : Calls Tryz.prog 21 #[.int .i64 m] w (LatPost m w) := by
  have h : m = 0 ∨ m = 1 ∨ m = 2 ∨ m = 3 ∨ m = 4 := by omega
  rcases h with rfl | rfl | rfl | rfl | rfl
  all_goals
    go_enter Tryz.func21, Tryz.ntmps21
    go_wp2_with fail
    go_ret2
    first
      | exact lat_post w 0
      | exact lat_post w 1
      | exact lat_post w 2
      | exact lat_post w 3
      | exact lat_post w 4
end Go.Proofs.YtiielblnmfeapaaGreatDoor
