/-
  Several texts of this claim in one. No condition beyond the bounds that each theorem states.
-/
import Derived.Test.YtiielblnmfeapaaGreatDoorRows
import Derived.Test.YtiielblnmfeapaaGreatDoorBase
import Derived.Deep.RegionHeld3
import Derived.Deep.QuietTactic
import Derived.BigQuiet
import Derived.WideLaws
import Derived.BigRegion
import Derived.Deep.DeepCutAuto
import Derived.Test.YtiielblnmfeapaaGreatDoorGRD
namespace Go.Proofs.YtiielblnmfeapaaGreatDoor
open Go.RowKit Go.Qz
set_option linter.unusedVariables false

section
variable {w w' : World} {p g n : Nat} {ws : List Nat}
end

theorem u32_pow (r : Nat) (h : r < 32) : IntKind.u32.wrap (2 ^ r) = ((2 ^ r : Nat) : Int) := by
  have h1 : 2 ^ r ≤ 2 ^ 31 := Nat.pow_le_pow_right (by omega) (by omega)
  rw [IntKind.wrap_u32]
  have h2 : ((2 ^ r : Nat) : Int) = (2 : Int) ^ r := by simp
  rw [← h2]
  generalize 2 ^ r = x at *
  omega
theorem u32_ofInt (a : Nat) (ha : a < 4294967296) : (BitVec.ofInt 32 (a : Int)).toNat = a := by
  rw [BitVec.ofInt_natCast, BitVec.toNat_ofNat]; exact Nat.mod_eq_of_lt (by omega)
theorem u32_or (a b : Nat) (ha : a < 4294967296) (hb : b < 4294967296) : bits .or .u32 (a : Int) (b : Int) = ((a ||| b : Nat) : Int) := by
  have hx : a ||| b < 2 ^ 32 := Nat.or_lt_two_pow (by omega) (by omega)
  show IntKind.u32.wrap ((BitVec.ofInt 32 (a : Int) ||| BitVec.ofInt 32 (b : Int)).toNat : Int) = _
  rw [BitVec.toNat_or, u32_ofInt a ha, u32_ofInt b hb, IntKind.wrap_u32]
  omega
theorem u32_and (a b : Nat) (ha : a < 4294967296) (hb : b < 4294967296) : bits .and .u32 (a : Int) (b : Int) = ((a &&& b : Nat) : Int) := by
  have hx : a &&& b < 2 ^ 32 := Nat.and_lt_two_pow _ (by omega)
  show IntKind.u32.wrap ((BitVec.ofInt 32 (a : Int) &&& BitVec.ofInt 32 (b : Int)).toNat : Int) = _
  rw [BitVec.toNat_and, u32_ofInt a ha, u32_ofInt b hb, IntKind.wrap_u32]
  omega
theorem u32_xor (a b : Nat) (ha : a < 4294967296) (hb : b < 4294967296) : bits .xor .u32 (a : Int) (b : Int) = ((a ^^^ b : Nat) : Int) := by
  have hx : a ^^^ b < 2 ^ 32 := Nat.xor_lt_two_pow (by omega) (by omega)
  show IntKind.u32.wrap ((BitVec.ofInt 32 (a : Int) ^^^ BitVec.ofInt 32 (b : Int)).toNat : Int) = _
  rw [BitVec.toNat_xor, u32_ofInt a ha, u32_ofInt b hb, IntKind.wrap_u32]
  omega

/-- The i-th bit of words. -/
def bit (ws : List Nat) (i : Nat) : Bool := (nth ws (i / 32)).testBit (i % 32)

theorem and_pow_ne (x r : Nat) : (((x &&& 2 ^ r : Nat) : Int) != 0) = x.testBit r := by
  cases h : x.testBit r
  · have h0 : x &&& 2 ^ r = 0 := by
      apply Nat.eq_of_testBit_eq
      intro i
      rw [Nat.testBit_and, Nat.testBit_two_pow, Nat.zero_testBit]
      by_cases hi : r = i
      · subst hi; simp [h]
      · simp [hi]
    rw [h0]; rfl
  · rw [bne_iff_ne]
    intro h0
    have h1 : x &&& 2 ^ r = 0 := by omega
    have h2 : (x &&& 2 ^ r).testBit r = true := by rw [Nat.testBit_and, Nat.testBit_two_pow_self, h]; rfl
    rw [h1, Nat.zero_testBit] at h2
    cases h2

theorem Tryz.infoU32 : (Tryz.prog.info? 145).map (fun i => (i.zero, i.size, i.bytes)) = some (some (.int .u32 0), 1, 4) := by kernel_rfl

theorem bit_zeros (m i : Nat) : bit (List.replicate m 0) i = false := by
  unfold bit nth
  rw [List.getD_eq_getElem?_getD, List.getElem?_replicate]
  split <;> simp
theorem bit_set (ws : List Nat) (i j : Nat) (hi : i / 32 < ws.length) : bit (ws.set (i / 32) (nth ws (i / 32) ||| 2 ^ (i % 32))) j = (bit ws j || decide (j = i)) := by
  unfold bit
  by_cases hq : j / 32 = i / 32
  · rw [hq]
    have e : nth (ws.set (i / 32) (nth ws (i / 32) ||| 2 ^ (i % 32))) (i / 32) = nth ws (i / 32) ||| 2 ^ (i % 32) := by
      conv => lhs; unfold nth
      rw [List.getD_eq_getElem?_getD, List.getElem?_set_self hi]; rfl
    rw [e, Nat.testBit_or, Nat.testBit_two_pow]
    congr 1
    rw [Bool.eq_iff_iff]; simp; omega
  · have e : nth (ws.set (i / 32) (nth ws (i / 32) ||| 2 ^ (i % 32))) (j / 32) = nth ws (j / 32) := by
      unfold nth
      rw [List.getD_eq_getElem?_getD, List.getElem?_set_ne (by omega), List.getD_eq_getElem?_getD]
    rw [e]
    have : j ≠ i := by intro h; exact hq (by rw [h])
    simp [this]

end Go.Proofs.YtiielblnmfeapaaGreatDoor
namespace Go.Proofs.YtiielblnmfeapaaGreatDoor
open Go.RowKit Go.Qz
set_option linter.unusedVariables false

/-- Block p is a BitMatrix of W by H whose words lie in block g. -/
structure BM (w : World) (p g : Nat) (ws : List Nat) (W H : Nat) : Prop where
  hp : w.heap[p]? = some (.cells #[.int .i64 W, .int .i64 H, .int .i64 ((W + 31) / 32 : Nat), .slice (some ⟨g, 0, none⟩) ws.length ws.length] 144 (0, 0))
  hg : w.heap[g]? = some (.cells (ws.map fun x : Nat => Value.int .u32 x).toArray 145 (0, 0))
  ne : p ≠ g
  lt : ∀ x ∈ ws, x < 4294967296
  len : ws.length = (W + 31) / 32 * H

section
variable {w w' : World} {p g W H : Nat} {ws : List Nat}
theorem BM.width (h : BM w p g ws W H) : w.cell? ⟨p, 0, none⟩ = some (.int .i64 W) := by
  rw [cell_of_row w p 0 _ _ _ h.hp]; rfl
theorem BM.height (h : BM w p g ws W H) : w.cell? ⟨p, 1, none⟩ = some (.int .i64 H) := by
  rw [cell_of_row w p 1 _ _ _ h.hp]; rfl
theorem BM.rowSize (h : BM w p g ws W H) : w.cell? ⟨p, 2, none⟩ = some (.int .i64 ((W + 31) / 32 : Nat)) := by
  rw [cell_of_row w p 2 _ _ _ h.hp]; rfl
theorem BM.bits (h : BM w p g ws W H) : w.cell? ⟨p, 3, none⟩ = some (.slice (some ⟨g, 0, none⟩) ws.length ws.length) := by
  rw [cell_of_row w p 3 _ _ _ h.hp]; rfl
theorem BM.word (h : BM w p g ws W H) {j : Nat} (hj : j < ws.length) : w.cell? ⟨g, j, none⟩ = some (.int .u32 (nth ws j : Nat)) := by
  rw [cell_of_row w g j _ _ _ h.hg]; simp [hj, nth_eq hj]
theorem BM.free (h : BM w p g ws W H) (j : Nat) : w.frozen? ⟨g, j, none⟩ = false := by
  simp [World.frozen?, h.hg]
theorem BM.plt (h : BM w p g ws W H) : p < w.heap.size := (Array.getElem?_eq_some_iff.1 h.hp).1
theorem BM.glt (h : BM w p g ws W H) : g < w.heap.size := (Array.getElem?_eq_some_iff.1 h.hg).1
theorem BM.keep (h : BM w p g ws W H) (h1 : w'.heap[p]? = w.heap[p]?) (h2 : w'.heap[g]? = w.heap[g]?) : BM w' p g ws W H :=
  ⟨h1.trans h.hp, h2.trans h.hg, h.ne, h.lt, h.len⟩
theorem BM.below {B : Nat} (h : BM w p g ws W H) (hb : Below B w w') (hp : p < B) (hg : g < B) : BM w' p g ws W H := h.keep (hb.block _ hp) (hb.block _ hg)
theorem BM.mod {S : Nat → Prop} (h : BM w p g ws W H) (hm : Mod S w w') (hp : ¬ S p) (hg : ¬ S g) : BM w' p g ws W H := h.keep (hm.block _ h.plt hp) (hm.block _ h.glt hg)
theorem BM.alloc (h : BM w p g ws W H) (o : Obj) : BM (w.alloc o) p g ws W H := h.keep (Below.heap_alloc _ _ _ h.plt) (Below.heap_alloc _ _ _ h.glt)
theorem BM.set_ (h : BM w p g ws W H) (j x : Nat) (hx : x < 4294967296) : BM (w.setCell ⟨g, j, none⟩ (.int .u32 x)) p g (ws.set j x) W H := by
  refine ⟨?_, ?_, h.ne, ?_, ?_⟩
  · rw [Below.heap_setCell _ _ _ _ h.ne, List.length_set]; exact h.hp
  · have := h.hg
    simp [World.setCell, Array.getElem?_modify, this, List.map_set]
  · intro y hy
    rcases List.mem_or_eq_of_mem_set hy with h1 | h1
    · exact h.lt y h1
    · rw [h1]; exact hx
  · rw [List.length_set]; exact h.len
end
/-- The module at a place. -/
def mb (ws : List Nat) (W x y : Nat) : Bool := (nth ws (y * ((W + 31) / 32) + x / 32)).testBit (x % 32)
theorem at_lt {W H x y : Nat} (hx : x < W) (hy : y < H) : y * ((W + 31) / 32) + x / 32 < (W + 31) / 32 * H := by
  have h1 : x / 32 < (W + 31) / 32 := by omega
  have h2 : (y + 1) * ((W + 31) / 32) ≤ H * ((W + 31) / 32) := Nat.mul_le_mul_right _ hy
  rw [Nat.mul_comm _ H]
  rw [Nat.add_mul, Nat.one_mul] at h2
  omega
theorem at_inj {W x y x' y' : Nat} (hx : x < W) (hx' : x' < W) (h : y * ((W + 31) / 32) + x / 32 = y' * ((W + 31) / 32) + x' / 32) : y = y' ∧ x / 32 = x' / 32 := by
  have h1 : x / 32 < (W + 31) / 32 := by omega
  have h2 : x' / 32 < (W + 31) / 32 := by omega
  generalize (W + 31) / 32 = R at *
  have h3 : y = y' := by
    rcases Nat.lt_trichotomy y y' with a | a | a
    · have := Nat.mul_le_mul_right R (show y + 1 ≤ y' from a)
      rw [Nat.add_mul, Nat.one_mul] at this; omega
    · exact a
    · have := Nat.mul_le_mul_right R (show y' + 1 ≤ y from a)
      rw [Nat.add_mul, Nat.one_mul] at this; omega
  subst h3
  exact ⟨rfl, by omega⟩
theorem mb_zeros (m W x y : Nat) : mb (List.replicate m 0) W x y = false := by
  unfold mb
  rw [nth_replicate]
  split <;> simp
theorem mb_set (ws : List Nat) (W H x y i j : Nat) (hlen : ws.length = (W + 31) / 32 * H) (hi : i < W) (hj : j < H) (hx : x < W) :
    mb (ws.set (j * ((W + 31) / 32) + i / 32) (nth ws (j * ((W + 31) / 32) + i / 32) ||| 2 ^ (i % 32))) W x y = (mb ws W x y || decide (x = i ∧ y = j)) := by
  unfold mb
  rw [nth_set (by rw [hlen]; exact at_lt hi hj)]
  by_cases h : y * ((W + 31) / 32) + x / 32 = j * ((W + 31) / 32) + i / 32
  · obtain ⟨h1, h2⟩ := at_inj hx hi h
    rw [if_pos h, h, Nat.testBit_or, Nat.testBit_two_pow]
    congr 1
    rw [Bool.eq_iff_iff]
    simp only [decide_eq_true_eq]
    omega
  · rw [if_neg h]
    have : ¬ (x = i ∧ y = j) := by rintro ⟨rfl, rfl⟩; exact h rfl
    simp [this]

set_option maxRecDepth 100000 in
set_option maxHeartbeats 800000 in
theorem bm_set (I J : Int) (i j : Nat) (hI : I = i) (hJ : J = j) (p g W H : Nat) (ws : List Nat) (w : World) (h : BM w p g ws W H) (hi : i < W) (hj : j < H) (hW : W < 100000) (hH : H < 100000) :
    Calls Tryz.prog 52 #[.pointer (some ⟨p, 0, none⟩), .int .i64 I, .int .i64 J] w fun e w' => e = .returned (.tuple #[]) ∧ w' = w.setCell ⟨g, j * ((W + 31) / 32) + i / 32, none⟩ (.int .u32 ((nth ws (j * ((W + 31) / 32) + i / 32) ||| 2 ^ (i % 32) : Nat) : Int)) := by
  have hat := at_lt hi hj
  have hlen := h.len
  have hrow := h.rowSize
  obtain ⟨R, hR⟩ : ∃ R, R = (W + 31) / 32 := ⟨_, rfl⟩
  have hR2 : R < 100000 := by omega
  have hjR : j * R < 10000000000 := Nat.lt_of_le_of_lt (Nat.mul_le_mul (show j ≤ 99999 by omega) (show R ≤ 99999 by omega)) (by decide)
  rw [← hR] at hat hlen hrow ⊢
  obtain ⟨jr, hjr⟩ : ∃ jr, jr = j * R := ⟨_, rfl⟩
  rw [← hjr] at hat hjR ⊢
  obtain ⟨q, hq⟩ : ∃ q, q = jr + i / 32 := ⟨_, rfl⟩
  obtain ⟨r, hr⟩ : ∃ r, r = i % 32 := ⟨_, rfl⟩
  rw [← hq] at hat ⊢
  rw [← hr]
  have e0 : J * (R : Int) = (jr : Int) := by rw [hJ, hjr]; simp
  have e1 : (jr : Int) + I / 32 = (q : Int) := by omega
  have e2 : I % 32 = (r : Int) := by omega
  have hr32 : r < 32 := by omega
  have hi0 : 0 ≤ I := by omega
  have hi1 : I < 1000000 := by omega
  have hq0 : (0 : Int) ≤ (q : Int) := by omega
  have hql : q < ws.length := by omega
  have hq1 : (q : Int) < (ws.length : Int) := by omega
  have hqb : q < 100000000000 := by omega
  have hj0 : (0 : Int) ≤ (jr : Int) := by omega
  have hj1 : (jr : Int) < 10000000000 := by omega
  have hwr : IntKind.i64.wrap (jr : Int) = (jr : Int) := by rw [IntKind.wrap_i64]; omega
  have hw := h.word hql
  have hx := h.lt _ (nth_mem hql)
  have e3 := u32_pow r hr32
  have hp2 : 2 ^ r < 4294967296 := by
    have h1 : 2 ^ r ≤ 2 ^ 31 := Nat.pow_le_pow_right (by omega) (by omega)
    omega
  have e4 := u32_or _ _ hx hp2
  have hbits := h.bits
  have hfree := h.free q
  have HL := Lib.hid hlen
  clear hq hr hI hJ hjr hR hat hlen h hjR
  generalize 2 ^ r = P at *
  go_enter Tryz.func52, Tryz.ntmps52
  go_wp2_with fail
  go_end0
  exact ⟨rfl, rfl⟩

theorem BM.made (w : World) (m W H : Nat) (hm : m = (W + 31) / 32 * H) : BM ((w.alloc (.cells (zeros m (.int .u32 0)) 145)).alloc (.cells #[.int .i64 W, .int .i64 H, .int .i64 ((W + 31) / 32 : Nat), .slice (some ⟨w.heap.size, 0, none⟩) m m] 144)) (w.heap.size + 1) w.heap.size (List.replicate m 0) W H := by
  refine ⟨?_, ?_, by omega, ?_, ?_⟩
  · rw [List.length_replicate]
    have := heap_alloc_new (w.alloc (.cells (zeros m (.int .u32 0)) 145)) (.cells #[.int .i64 W, .int .i64 H, .int .i64 ((W + 31) / 32 : Nat), .slice (some ⟨w.heap.size, 0, none⟩) m m] 144)
    simpa using this
  · rw [Below.heap_alloc _ _ _ (by simp), heap_alloc_new]
    simp [zeros]
  · intro x hx
    rw [(List.mem_replicate.1 hx).2]; omega
  · rw [List.length_replicate, hm]

set_option maxRecDepth 100000 in
set_option maxHeartbeats 800000 in
theorem bm_new (W H : Nat) (hW : 0 < W) (hH : 0 < H) (hWl : W < 10000) (hHl : H < 10000) (w : World) :
    Calls Tryz.prog 51 #[.int .i64 W, .int .i64 H] w fun e w' => ∃ p g, e = .returned (.tuple #[.pointer (some ⟨p, 0, none⟩), .nilIface]) ∧ BM w' p g (List.replicate ((W + 31) / 32 * H) 0) W H ∧ Below w.heap.size w w' ∧ w.heap.size ≤ p ∧ w.heap.size ≤ g := by
  have HM := Lib.hid (BM.made w ((W + 31) / 32 * H) W H rfl)
  obtain ⟨R, hR⟩ : ∃ R, R = (W + 31) / 32 := ⟨_, rfl⟩
  rw [← hR] at HM ⊢
  obtain ⟨m, hm⟩ : ∃ m, m = R * H := ⟨_, rfl⟩
  rw [← hm] at HM ⊢
  have hml : m ≤ 100000000 := by rw [hm]; exact Nat.mul_le_mul (show R ≤ 10000 by omega) (show H ≤ 10000 by omega)
  have e1 : ((W : Int) + 31) / 32 = (R : Int) := by omega
  have e2 : (R : Int) * (H : Int) = (m : Int) := by rw [hm]; simp
  have hwr : IntKind.i64.wrap (m : Int) = (m : Int) := by rw [IntKind.wrap_i64]; omega
  have hmk := fun W => run_make1 (P := Tryz.prog) 142 145 (.int .u32 0) 4 Tryz.underlying142 Tryz.infoU32 rfl (by decide) m (by omega) .i64 .i64 m rfl W
  have g1 : decide ((W : Int) < 1) = false := by simp; omega
  have g2 : decide ((H : Int) < 1) = false := by simp; omega
  have g3 : (1 : Int) ≤ (W : Int) := by omega
  have g4 : (1 : Int) ≤ (H : Int) := by omega
  clear hR hm
  go_enter Tryz.func51, Tryz.ntmps51
  go_wp2_with fail
  go_ret2
  exact ⟨w.heap.size + 1, w.heap.size, rfl, HM.out, ((Below.refl _ _).alloc (Nat.le_refl _) _).alloc (by simp) _, Nat.le_succ _, Nat.le_refl _⟩

theorem Tryz.infoBool' : (Tryz.prog.info? 4).map (fun i => (i.zero, i.size, i.bytes)) = some (some (.bool false), 1, 1) := by kernel_rfl
/-- A list of bools that is made from the front. -/
def upB (n : Nat) (g : Nat → Bool) (i : Nat) : List Bool := (List.range n).map fun j => decide (j < i) && g j
/-- Block b is just these bools. -/
def BL (w : World) (b : Nat) (l : List Bool) : Prop := Arr w 4 b (l.map Value.bool)
theorem BL.arr {w : World} {b : Nat} {l : List Bool} (h : BL w b l) : Arr w 4 b (l.map Value.bool) := h
theorem BL.cell {w : World} {b n i j : Nat} {g : Nat → Bool} (h : BL w b (upB n g i)) (hj : j < n) : w.cell? ⟨b, j, none⟩ = some (.bool (decide (j < i) && g j)) := by
  rw [h.arr.cell?]; simp [upB, hj]
theorem BL.set_ {w : World} {b n i : Nat} {g : Nat → Bool} (h : BL w b (upB n g i)) : BL (w.setCell ⟨b, i, none⟩ (.bool (g i))) b (upB n g (i + 1)) := by
  have h2 := h.arr.set_ i (.bool (g i))
  have e : ((upB n g i).map Value.bool).set i (.bool (g i)) = (upB n g (i + 1)).map Value.bool := by
    apply List.ext_getElem (by simp [upB])
    intro j h1 h2
    simp only [upB, List.getElem_set, List.getElem_map, List.getElem_range]
    by_cases e : i = j
    · subst e; simp
    · rw [if_neg e]
      congr 2
      rw [Bool.eq_iff_iff]; simp; omega
  rw [e] at h2
  exact h2
theorem BL.zeros (w : World) (n : Nat) (g : Nat → Bool) : BL (w.alloc (.cells (zeros n (.bool false)) 4)) w.heap.size (upB n g 0) := by
  have := Arr.new w 4 (List.replicate n (Value.bool false))
  have e : (upB n g 0).map Value.bool = List.replicate n (Value.bool false) := by
    apply List.ext_getElem (by simp [upB])
    intro j h1 h2
    simp [upB]
  unfold BL
  rw [e]; exact this
theorem BL.rd {w : World} {b n : Nat} {g : Nat → Bool} (h : BL w b (upB n g n)) : Rd w (some ⟨b, 0, none⟩) n (fun j => .bool (g j)) := fun h0 => by
  refine ⟨b, 0, rfl, h.arr.lt, fun j hj => ?_⟩
  rw [Nat.zero_add, h.cell hj]
  simp [hj]
theorem BL.len (n : Nat) (g : Nat → Bool) (i : Nat) : (upB n g i).length = n := by simp [upB]

/-- What was read from the first words of a row. -/
def rowOf (ws : List Nat) (R y k : Nat) : List Nat := (List.range R).map fun j => if j < k then nth ws (y * R + j) else 0
theorem rowOf_set (ws : List Nat) (R y k : Nat) : (rowOf ws R y k).set k (nth ws (y * R + k)) = rowOf ws R y (k + 1) := by
  apply List.ext_getElem (by simp [rowOf])
  intro j h1 h2
  simp only [rowOf, List.getElem_set, List.getElem_map, List.getElem_range]
  by_cases e : k = j
  · subst e; rw [if_pos rfl, if_pos (by omega)]
  · rw [if_neg e]
    by_cases h : j < k
    · rw [if_pos h, if_pos (by omega)]
    · rw [if_neg h, if_neg (by omega)]
theorem rowOf_zero (ws : List Nat) (R y : Nat) : rowOf ws R y 0 = List.replicate R 0 := by
  apply List.ext_getElem (by simp [rowOf])
  intro j h1 h2
  simp [rowOf]
theorem rowOf_bit (ws : List Nat) (W y x : Nat) (hx : x < W) : bit (rowOf ws ((W + 31) / 32) y ((W + 31) / 32)) x = mb ws W x y := by
  unfold bit mb rowOf
  rw [nth_map_range _ _ _ (by omega), if_pos (by omega)]

end Go.Proofs.YtiielblnmfeapaaGreatDoor
namespace Go.Proofs.YtiielblnmfeapaaGreatDoor
open Go.RowKit Go.Qz
set_option linter.unusedVariables false

/-- A slice of H rows of W bools each, that reads as f. -/
def Rows2 (w : World) (A : Option Addr) (H W : Nat) (f : Nat → Nat → Bool) : Prop :=
  0 < H → ∃ b off, A = some ⟨b, off, none⟩ ∧ b < w.heap.size ∧ ∀ r, r < H → ∃ B C, w.cell? ⟨b, off + r, none⟩ = some (.slice B W C) ∧ Rd w B W (fun c => .bool (f r c))
theorem Rows2.below {w w' : World} {A : Option Addr} {H W : Nat} {f : Nat → Nat → Bool} (h : Rows2 w A H W f) (hb : Below w.heap.size w w') : Rows2 w' A H W f := fun h0 => by
  obtain ⟨b, off, e, hlt, hr⟩ := h h0
  refine ⟨b, off, e, Nat.lt_of_lt_of_le hlt hb.size, fun r hrl => ?_⟩
  obtain ⟨B, C, h1, h2⟩ := hr r hrl
  exact ⟨B, C, (hb.cell (p := ⟨b, off + r, none⟩) hlt).trans h1, h2.below hb⟩

/-- The bit at a place, of bits that go on and on. -/
def fitB (z : Nat → Bool) (n W r c : Nat) : Bool := decide (0 < n) && z ((r * W + c) % n)

theorem Tryz.infoBools : (Tryz.prog.info? 35).map (fun i => (i.zero, i.size, i.bytes)) = some (some (.slice none 0 0), 1, 24) := by kernel_rfl

/-- The headers of rows, so far: row r lies in block R + 1 + r. -/
def hdrs (R W H k : Nat) : List Value := (List.range H).map fun r => if r < k then Value.slice (some ⟨R + 1 + r, 0, none⟩) W W else .slice none 0 0
theorem hdrs_get (R W H k r : Nat) (hr : r < H) : (hdrs R W H k)[r]? = some (if r < k then Value.slice (some ⟨R + 1 + r, 0, none⟩) W W else .slice none 0 0) := by
  simp [hdrs, hr]
theorem hdrs_set (R W H k : Nat) : (hdrs R W H k).set k (.slice (some ⟨R + 1 + k, 0, none⟩) W W) = hdrs R W H (k + 1) := by
  apply List.ext_getElem (by simp [hdrs])
  intro j h1 h2
  simp only [hdrs, List.getElem_set, List.getElem_map, List.getElem_range]
  by_cases e : k = j
  · subst e; rw [if_pos rfl, if_pos (by omega)]
  · rw [if_neg e]
    by_cases h : j < k
    · rw [if_pos h, if_pos (by omega)]
    · rw [if_neg h, if_neg (by omega)]
theorem hdrs_zero (R W H : Nat) : (hdrs R W H 0) = List.replicate H (.slice none 0 0) := by
  apply List.ext_getElem (by simp [hdrs])
  intro j h1 h2
  simp [hdrs]

theorem rem_run (a b c : Int) (h0 : ¬ b = 0) (h : a.tmod b = c) (W : World) : (binOp .rem 3 (.int .i64 a) (.int .i64 b)).run Tryz.prog W = .ok (.int .i64 c) W := by
  subst h
  show ((Op.intDiv .rem .i64 a b).run Tryz.prog W) = _
  unfold Op.intDiv
  simp [h0, go_sem]
set_option maxRecDepth 100000 in
set_option maxHeartbeats 3200000 in
theorem biRows2 (W H : Nat) (hW : 0 < W) (hH : 0 < H) (hWl : W < 200) (hHl : H < 200) (z : Nat → Bool) (A : Option Addr) (n c : Nat) (hn : n < 4294967296) (w : World) (h : Rd w A n (fun j => .bool (z j))) :
    Calls Tryz.prog 18 #[.int .i64 W, .int .i64 H, .slice A n c] w fun e w' => ∃ b, e = .returned (.slice (some ⟨b, 0, none⟩) H H) ∧ Hid (Rows2 w' (some ⟨b, 0, none⟩) H W (fitB z n W)) ∧ Below w.heap.size w w' := by
  have hmkH := fun W => run_make1 (P := Tryz.prog) 32 35 (.slice none 0 0) 24 Tryz.underlying32 Tryz.infoBools rfl (by decide) H (by omega) .i64 .i64 H rfl W
  have hmkW := fun X => run_make1 (P := Tryz.prog) 35 4 (.bool false) 1 Tryz.underlying35 Tryz.infoBool' rfl (by decide) W (by omega) .i64 .i64 W rfl X
  have HR := Lib.hid h
  have hAr : Arr (w.alloc (.cells (zeros H (.slice none 0 0)) 35)) 35 w.heap.size (hdrs w.heap.size W H 0) := by
    rw [hdrs_zero]; exact Arr.new w 35 _
  have hb0 : Below w.heap.size w (w.alloc (.cells (zeros H (.slice none 0 0)) 35)) := (Below.refl _ _).alloc (Nat.le_refl _) _
  have hs0 : (w.alloc (.cells (zeros H (.slice none 0 0)) 35)).heap.size = w.heap.size + 1 := by simp
  clear h
  go_enter Tryz.func18, Tryz.ntmps18
  go_wp2_with fail
  obtain ⟨W3, hW3⟩ : ∃ W3, W3 = w.alloc (.cells (zeros H (.slice none 0 0)) 35) := ⟨_, rfl⟩
  rw [← hW3] at hAr hb0 hs0 ⊢
  obtain ⟨R, hR⟩ : ∃ R, R = w.heap.size := ⟨_, rfl⟩
  rw [← hR] at hAr hb0 hs0 ⊢
  have HRR := Lib.hid hR
  have HS0 : Hid (W3.heap.size = R + 1 + 0) := Lib.hid hs0
  clear hW3 hR hs0
  go_loopw [8] (fun i wr => ∃ k : Nat, k ≤ H ∧ i = .int .i64 k ∧ Arr wr 35 R (hdrs R W H k) ∧ Below R w wr ∧ Hid (wr.heap.size = R + 1 + k) ∧ Hid (∀ r, r < k → BL wr (R + 1 + r) (upB W (fitB z n W r) W))) (fun i _ => H - (intOf i).toNat)
  case atStart => exact ⟨0, by omega, rfl, hAr, hb0, HS0, Lib.hid (fun r hr => by omega)⟩
  case round =>
    obtain ⟨k, hk, rfl, hA2, hB2, HS, HB⟩ := hrel
    clear hAr hb0 HS0
    by_cases hlt : k < H
    · have hhl : (hdrs R W H k).length = H := by simp [hdrs]
      have hck := hA2.cell? k
      rw [hdrs_get _ _ _ _ _ hlt, if_neg (by omega)] at hck
      have hfk := hA2.free k
      have hsz : wr.heap.size = R + 1 + k := HS.out
      have hk0 : (0 : Int) ≤ (k : Int) := by omega
      have hk1 : (k : Int) < (H : Int) := by omega
      have hck2 : (wr.alloc (.cells (zeros W (.bool false)) 4)).cell? ⟨R, k, none⟩ = some (.slice none 0 0) := (World.cell?_alloc_past _ _ _ hA2.lt).trans hck
      have hfk2 : (wr.alloc (.cells (zeros W (.bool false)) 4)).frozen? ⟨R, k, none⟩ = false := (hA2.mod (S := fun _ => False) ((Mod.refl _).alloc (.cells (zeros W (.bool false)) 4)) (fun h => h)).free k
      have hA3 := (hA2.mod (S := fun _ => False) ((Mod.refl _).alloc (.cells (zeros W (.bool false)) 4)) (fun h => h)).set_ k (.slice (some ⟨R + 1 + k, 0, none⟩) W W)
      rw [hdrs_set] at hA3
      have hL := BL.zeros wr W (fitB z n W k)
      rw [hsz] at hL
      have hL3 : BL ((wr.alloc (.cells (zeros W (.bool false)) 4)).setCell ⟨R, k, none⟩ (.slice (some ⟨R + 1 + k, 0, none⟩) W W)) (R + 1 + k) (upB W (fitB z n W k) 0) := hL.arr.mod (Mod.set1 _ R k _) (by omega)
      have hB3 : Below R w ((wr.alloc (.cells (zeros W (.bool false)) 4)).setCell ⟨R, k, none⟩ (.slice (some ⟨R + 1 + k, 0, none⟩) W W)) := (hB2.alloc (by omega) _).setCell (p := ⟨R, k, none⟩) (Nat.le_refl _) _
      have hS3 : ((wr.alloc (.cells (zeros W (.bool false)) 4)).setCell ⟨R, k, none⟩ (.slice (some ⟨R + 1 + k, 0, none⟩) W W)).heap.size = R + 1 + (k + 1) := by simp [World.setCell]; omega
      have hBL3 : ∀ r, r < k → BL ((wr.alloc (.cells (zeros W (.bool false)) 4)).setCell ⟨R, k, none⟩ (.slice (some ⟨R + 1 + k, 0, none⟩) W W)) (R + 1 + r) (upB W (fitB z n W r) W) := fun r hr =>
        ((HB.out r hr).arr.mod (S := fun _ => False) ((Mod.refl _).alloc (.cells (zeros W (.bool false)) 4)) (fun h => h)).mod (Mod.set1 _ R k _) (by omega)
      clear hA2 hB2 hL hhl hck HB
      go_wp2_with fail
      obtain ⟨W4, hW4⟩ : ∃ W4, W4 = (wr.alloc (.cells (zeros W (.bool false)) 4)).setCell ⟨R, k, none⟩ (.slice (some ⟨R + 1 + k, 0, none⟩) W W) := ⟨_, rfl⟩
      rw [← hW4] at hA3 hL3 hB3 hS3 hBL3 ⊢
      have HA3 := Lib.hid hA3
      have HB3 := Lib.hid hB3
      have HBL3 := Lib.hid hBL3
      have HL3 := Lib.hid hL3
      have HS3 := Lib.hid hS3
      clear hA3 hB3 hBL3 hL3 hS3 hW4 hck2 hfk2 hsz HS
      go_loopw [9] (fun i wr => ∃ x : Nat, x ≤ W ∧ i = .int .i64 x ∧ Arr wr 35 R (hdrs R W H (k + 1)) ∧ Below R w wr ∧ Hid (wr.heap.size = R + 1 + (k + 1)) ∧ Hid (∀ r, r < k → BL wr (R + 1 + r) (upB W (fitB z n W r) W)) ∧ BL wr (R + 1 + k) (upB W (fitB z n W k) x)) (fun i _ => W - (intOf i).toNat)
      case atStart => exact ⟨0, by omega, rfl, HA3.out, HB3.out, HS3, HBL3, HL3.out⟩
      case round =>
        obtain ⟨x, hx, rfl, hA5, hB5, HS5, HBL5, hL5⟩ := hrel
        clear HA3 HB3 HS3 HBL3 HL3
        by_cases hxl : x < W
        · by_cases hn0 : 0 < n
          · obtain ⟨ab, ao, rfl, hab, hac⟩ := HR.out hn0
            obtain ⟨m, hm⟩ : ∃ m, m = k * W := ⟨_, rfl⟩
            have em : (k : Int) * (W : Int) = (m : Int) := by rw [hm]; simp
            have hml : m < 40000 := by rw [hm]; exact Nat.lt_of_le_of_lt (Nat.mul_le_mul (show k ≤ 199 by omega) (show W ≤ 199 by omega)) (by decide)
            have hwm : IntKind.i64.wrap (m : Int) = (m : Int) := by rw [IntKind.wrap_i64]; omega
            obtain ⟨j, hj⟩ : ∃ j, j = (m + x) % n := ⟨_, rfl⟩
            have hjl : j < n := by rw [hj]; exact Nat.mod_lt _ hn0
            have ej : ((m : Int) + (x : Int)).tmod (n : Int) = (j : Int) := by rw [Int.tmod_eq_emod_of_nonneg (by omega), hj]; simp
            have ejm : ((m : Int) + (x : Int)) % (n : Int) = (j : Int) := by rw [hj]; simp
            have hws : IntKind.i64.wrap ((m : Int) + (x : Int)) = (m : Int) + (x : Int) := by rw [IntKind.wrap_i64]; omega
            have hrem := fun W => rem_run ((m : Int) + (x : Int)) (n : Int) (j : Int) (by omega) ej W
            have cz := (hB5.cell (p := ⟨ab, ao + j, none⟩) (by rw [HRR.out]; exact hab)).trans (hac j hjl)
            dsimp only at cz
            have hfit : fitB z n W k x = z j := by unfold fitB; rw [hj, hm]; simp [hn0]
            have hL6 := hL5.set_
            rw [hfit] at hL6
            have ch := hA5.cell? k
            rw [hdrs_get _ _ _ _ _ hlt, if_pos (by omega)] at ch
            have cl := hL5.cell hxl
            have hz0 : (decide (x < x) && fitB z n W k x) = false := by simp
            rw [hz0] at cl
            have fl := hL5.arr.free x
            obtain ⟨v, hv⟩ : ∃ v, v = z j := ⟨_, rfl⟩
            rw [← hv] at cz hL6
            have hj0 : (0 : Int) ≤ (j : Int) := by omega
            have hj1 : (j : Int) < (n : Int) := by omega
            have hx0 : (0 : Int) ≤ (x : Int) := by omega
            have hx1 : (x : Int) < (W : Int) := by omega
            have hn1 : (0 : Int) < (n : Int) := by omega
            have hkH : (k : Int) < (H : Int) := by omega
            have hA7 := Lib.hid (hA5.mod (Mod.set1 wr (R + 1 + k) x (.bool v)) (by omega))
            have hB7 := Lib.hid (hB5.setCell (p := ⟨R + 1 + k, x, none⟩) (by dsimp only; omega) (.bool v))
            have HS7 : Hid ((wr.setCell ⟨R + 1 + k, x, none⟩ (.bool v)).heap.size = R + 1 + (k + 1)) := Lib.hid (by simp only [World.setCell]; rw [Array.size_modify]; exact HS5.out)
            have HBL7 : Hid (∀ r, r < k → BL (wr.setCell ⟨R + 1 + k, x, none⟩ (.bool v)) (R + 1 + r) (upB W (fitB z n W r) W)) := Lib.hid (fun r hr => (HBL5.out r hr).arr.mod (Mod.set1 wr (R + 1 + k) x (.bool v)) (by omega))
            have HL7 := Lib.hid hL6
            clear hm hj hfit hz0 hv hA5 hB5 hL5 hL6 hac ej
            go_wp2_with fail
            go_region
            go_wp2_with fail
            go_roundw
            case rel => exact ⟨x + 1, by omega, by go_num, hA7.out.mod (Mod.drewN (Mod.refl (S := fun _ => False) _) 1) (fun h => h), below_drewN hB7.out 1, HS7, HBL7, HL7.out.arr.mod (Mod.drewN (Mod.refl (S := fun _ => False) _) 1) (fun h => h)⟩
            case measure => simp [intOf]; omega
          · obtain rfl : n = 0 := by omega
            have HL6 : Hid (BL wr (R + 1 + k) (upB W (fitB z 0 W k) W)) := Lib.hid (by
              have e : upB W (fitB z 0 W k) W = upB W (fitB z 0 W k) x := by unfold upB fitB; simp
              rw [e]; exact hL5)
            have HBL7 : Hid (∀ r, r < k + 1 → BL wr (R + 1 + r) (upB W (fitB z 0 W r) W)) := Lib.hid (fun r hr => by
              by_cases e : r = k
              · rw [e]; exact HL6.out
              · exact HBL5.out r (by omega))
            clear hL5
            go_wp2_with fail
            go_roundw
            case rel => exact ⟨k + 1, by omega, by go_num, hA5, hB5, HS5, HBL7⟩
            case measure => simp [intOf]; omega
        · obtain rfl : x = W := by omega
          have HBL7 : Hid (∀ r, r < k + 1 → BL wr (R + 1 + r) (upB x (fitB z n x r) x)) := Lib.hid (fun r hr => by
            by_cases e : r = k
            · rw [e]; exact hL5
            · exact HBL5.out r (by omega))
          clear hL5
          go_wp2_with fail
          go_roundw
          case rel => exact ⟨k + 1, by omega, by go_num, hA5, hB5, HS5, HBL7⟩
          case measure => simp [intOf]; omega
    · obtain rfl : k = H := by omega
      have HR2 : Hid (Rows2 wr (some ⟨R, 0, none⟩) k W (fitB z n W)) := Lib.hid (fun h0 => ⟨R, 0, rfl, hA2.lt, fun r hr => ⟨_, _, by rw [Nat.zero_add, hA2.cell? r, hdrs_get _ _ _ _ _ hr, if_pos hr], (HB.out r hr).rd⟩⟩)
      clear hA2
      go_wp2_with fail
      go_ret
      exact ⟨R, rfl, HR2, by rw [← HRR.out]; exact hB2⟩

end Go.Proofs.YtiielblnmfeapaaGreatDoor
namespace Go.Proofs.YtiielblnmfeapaaGreatDoor
open Go.RowKit Go.Qz
set_option linter.unusedVariables false

theorem at_injP {W x y x' y' : Nat} (hx : x < (W + 31) / 32 * 32) (hx' : x' < (W + 31) / 32 * 32) (h : y * ((W + 31) / 32) + x / 32 = y' * ((W + 31) / 32) + x' / 32) : y = y' ∧ x / 32 = x' / 32 := by
  have h1 : x / 32 < (W + 31) / 32 := by omega
  have h2 : x' / 32 < (W + 31) / 32 := by omega
  generalize (W + 31) / 32 = R at *
  have h3 : y = y' := by
    rcases Nat.lt_trichotomy y y' with a | a | a
    · have := Nat.mul_le_mul_right R (show y + 1 ≤ y' from a)
      rw [Nat.add_mul, Nat.one_mul] at this; omega
    · exact a
    · have := Nat.mul_le_mul_right R (show y' + 1 ≤ y from a)
      rw [Nat.add_mul, Nat.one_mul] at this; omega
  subst h3
  exact ⟨rfl, by omega⟩
theorem mb_setP (ws : List Nat) (W H x y i j : Nat) (hlen : ws.length = (W + 31) / 32 * H) (hi : i < W) (hj : j < H) (hx : x < (W + 31) / 32 * 32) :
    mb (ws.set (j * ((W + 31) / 32) + i / 32) (nth ws (j * ((W + 31) / 32) + i / 32) ||| 2 ^ (i % 32))) W x y = (mb ws W x y || decide (x = i ∧ y = j)) := by
  unfold mb
  rw [nth_set (by rw [hlen]; exact at_lt hi hj)]
  by_cases h : y * ((W + 31) / 32) + x / 32 = j * ((W + 31) / 32) + i / 32
  · obtain ⟨h1, h2⟩ := at_injP hx (show i < (W + 31) / 32 * 32 by omega) h
    rw [if_pos h, h, Nat.testBit_or, Nat.testBit_two_pow]
    congr 1
    rw [Bool.eq_iff_iff]
    simp only [decide_eq_true_eq]
    omega
  · rw [if_neg h]
    have : ¬ (x = i ∧ y = j) := by rintro ⟨rfl, rfl⟩; exact h rfl
    simp [this]
/-- Words that show the modules so far: the rows ahead, and of this row the first ones. -/
def ShowsP (ws : List Nat) (W H : Nat) (f : Nat → Nat → Bool) (k j : Nat) : Prop := ∀ x y, x < (W + 31) / 32 * 32 → y < H → mb ws W x y = (decide (x < W ∧ (y < k ∨ y = k ∧ x < j)) && f y x)

set_option maxRecDepth 100000 in
set_option maxHeartbeats 3200000 in
theorem bm_parseP (W H : Nat) (hW : 0 < W) (hH : 0 < H) (hWl : W < 1000) (hHl : H < 1000) (f : Nat → Nat → Bool) (A : Option Addr) (c : Nat) (w : World) (h : Rows2 w A H W f) :
    Calls Tryz.prog 27 #[.slice A H c] w fun e w' => ∃ p g ws, e = .returned (.tuple #[.pointer (some ⟨p, 0, none⟩), .nilIface]) ∧ BM w' p g ws W H ∧ Hid (∀ x y, x < (W + 31) / 32 * 32 → y < H → mb ws W x y = (decide (x < W) && f y x)) ∧ Below w.heap.size w w' ∧ w.heap.size ≤ p ∧ w.heap.size ≤ g := by
  have HR := Lib.hid h
  obtain ⟨b, off, rfl, hb, hr⟩ := h hH
  obtain ⟨B0, C0, h00, _⟩ := hr 0 hH
  rw [Nat.add_zero] at h00
  have hH1 : (0 : Int) < (H : Int) := by omega
  have hneq2 : ∀ W, (binOp .neq 44 .nilIface .nilIface).run Tryz.prog W = .ok (.bool false) W := fun W => rfl
  have HRR := Lib.hid hr
  clear hr h
  go_enter Tryz.func27, Tryz.ntmps27
  go_wp2_with fail
  refine (bm_new W H hW hH (by omega) (by omega) w).mono ?_
  rintro e w1 ⟨p, g, rfl, hbm, hbel, hp, hg⟩
  have HS0 : Hid (ShowsP (List.replicate ((W + 31) / 32 * H) 0) W H f 0 0) := Lib.hid (fun x y _ _ => by rw [mb_zeros]; simp)
  have HBM := Lib.hid hbm
  have HBEL := Lib.hid hbel
  clear hbm hbel
  go_wp2_with fail
  go_loopw [8] (fun i wr => ∃ (k : Nat) (ws : List Nat), k ≤ H ∧ i = .int .i64 k ∧ BM wr p g ws W H ∧ Below w.heap.size w wr ∧ Hid (ShowsP ws W H f k 0)) (fun i _ => H - (intOf i).toNat)
  case atStart => exact ⟨0, _, by omega, rfl, HBM.out, HBEL.out, HS0⟩
  case round =>
    obtain ⟨k, ws, hk, rfl, hbm, hbel, HS⟩ := hrel
    clear HBM HBEL HS0
    by_cases hlt : k < H
    · obtain ⟨b', off', e0, hb', hrows⟩ := (HR.out.below hbel) hH
      injection e0 with e0
      injection e0 with e0 e1 _
      subst e0 e1
      obtain ⟨B, C, hrow, hrd⟩ := hrows k hlt
      have hk0 : (0 : Int) ≤ (k : Int) := by omega
      have hk1 : (k : Int) < (H : Int) := by omega
      obtain ⟨rb, ro, rfl, hrb, hrc⟩ := hrd hW
      dsimp only at hrc
      have HRC := Lib.hid hrc
      have HBM := Lib.hid hbm
      have HBEL := Lib.hid hbel
      obtain ⟨W5, hW5⟩ : ∃ W5, W5 = wr := ⟨_, rfl⟩
      rw [← hW5] at hrb HRC HBM HBEL hrow ⊢
      have hrbp : Hid (∀ W', Below W5.heap.size W5 W' → True) := Lib.hid (fun _ _ => trivial)
      have hrbw : rb < w.heap.size := by
        obtain ⟨B2, C2, hrow2, hrd2⟩ := HRR.out k hlt
        have h3 : W5.cell? ⟨b, off + k, none⟩ = some (.slice B2 W C2) := (HBEL.out.cell (p := ⟨b, off + k, none⟩) hb).trans hrow2
        rw [hrow] at h3
        injection h3 with h3
        injection h3 with h3 _ _
        obtain ⟨rb2, ro2, e2, hl2, _⟩ := hrd2 hW
        rw [← h3] at e2
        injection e2 with e2
        injection e2 with e2 _ _
        omega
      clear hrows hrd hrc hbm hbel hW5 hrbp
      go_wp2_with fail
      go_loopw [10] (fun i wr => ∃ (j : Nat) (ws : List Nat), j ≤ W ∧ i = .int .i64 j ∧ BM wr p g ws W H ∧ Below w.heap.size w wr ∧ Hid (ShowsP ws W H f k j) ∧ Hid (∀ j, j < W → wr.cell? ⟨rb, ro + j, none⟩ = some (.bool (f k j)))) (fun i _ => W - (intOf i).toNat)
      case atStart => exact ⟨0, ws, by omega, rfl, HBM.out, HBEL.out, HS, HRC⟩
      case round =>
        obtain ⟨j, ws2, hj, rfl, hbm, hbel, HS2, HRC2⟩ := hrel
        clear HBM HBEL HS hrow HRC hrb
        by_cases hjl : j < W
        · have cv := HRC2.out j hjl
          have hj0 : (0 : Int) ≤ (j : Int) := by omega
          have hj1 : (j : Int) < (W : Int) := by omega
          have HBM := Lib.hid hbm
          have HBEL := Lib.hid hbel
          clear hbm hbel
          cases hv : f k j with
          | true =>
            rw [hv] at cv
            have HV := Lib.hid hv
            have HST := Lib.hid (bm_set (j : Int) (k : Int) j k rfl rfl p g W H ws2 wr HBM.out hjl hlt (by omega) (by omega))
            have hlen := HBM.out.len
            have hql : k * ((W + 31) / 32) + j / 32 < ws2.length := by rw [hlen]; exact at_lt hjl hlt
            have hx := HBM.out.lt _ (nth_mem hql)
            have h2p : 2 ^ (j % 32) < 2 ^ 32 := Nat.pow_lt_pow_right (by decide) (by omega)
            have hnew : nth ws2 (k * ((W + 31) / 32) + j / 32) ||| 2 ^ (j % 32) < 4294967296 := by
              have := Nat.or_lt_two_pow (n := 32) (show nth ws2 (k * ((W + 31) / 32) + j / 32) < 2 ^ 32 by omega) h2p; omega
            have hbm2 := HBM.out.set_ (k * ((W + 31) / 32) + j / 32) (nth ws2 (k * ((W + 31) / 32) + j / 32) ||| 2 ^ (j % 32)) hnew
            have HS3 : Hid (ShowsP (ws2.set (k * ((W + 31) / 32) + j / 32) (nth ws2 (k * ((W + 31) / 32) + j / 32) ||| 2 ^ (j % 32))) W H f k (j + 1)) := Lib.hid (fun x y hx hy => by
              rw [mb_setP ws2 W H x y j k hlen hjl hlt hx, HS2.out x y hx hy]
              by_cases e : x = j ∧ y = k
              · obtain ⟨rfl, rfl⟩ := e
                rw [HV.out]; simp [hjl]
              · have e1 : decide (x = j ∧ y = k) = false := by simpa using e
                rw [e1, Bool.or_false]
                congr 1
                rw [Bool.eq_iff_iff]; simp only [decide_eq_true_eq]; omega)
            have HB3 := Lib.hid (HBEL.out.setCell (p := ⟨g, k * ((W + 31) / 32) + j / 32, none⟩) hg (.int .u32 ((nth ws2 (k * ((W + 31) / 32) + j / 32) ||| 2 ^ (j % 32) : Nat) : Int)))
            have HRC3 : Hid (∀ j', j' < W → (wr.setCell ⟨g, k * ((W + 31) / 32) + j / 32, none⟩ (.int .u32 ((nth ws2 (k * ((W + 31) / 32) + j / 32) ||| 2 ^ (j % 32) : Nat) : Int))).cell? ⟨rb, ro + j', none⟩ = some (.bool (f k j'))) := Lib.hid (fun j' hj' => by
              rw [← HRC2.out j' hj']
              exact World.cell?_of_block (w := wr) (Below.heap_setCell _ _ _ _ (by dsimp only; omega)))
            have HBM2 := Lib.hid hbm2
            clear hv hbm2 hnew h2p hx hql hlen HS2 HRC2 HBM HBEL
            go_wp2_with fail
            refine HST.out.mono ?_
            rintro e w3 ⟨rfl, rfl⟩
            generalize (wr.setCell ⟨g, k * ((W + 31) / 32) + j / 32, none⟩ (.int .u32 ((nth ws2 (k * ((W + 31) / 32) + j / 32) ||| 2 ^ (j % 32) : Nat) : Int))) = w9 at *
            generalize ws2.set (k * ((W + 31) / 32) + j / 32) (nth ws2 (k * ((W + 31) / 32) + j / 32) ||| 2 ^ (j % 32)) = ws9 at *
            clear HST
            go_wp2_with fail
            go_roundw
            case rel => exact ⟨j + 1, ws9, by omega, by go_num, HBM2.out, HB3.out, HS3, HRC3⟩
            case measure => simp [intOf]; omega
          | false =>
            rw [hv] at cv
            have HS3 : Hid (ShowsP ws2 W H f k (j + 1)) := Lib.hid (fun x y hx hy => by
              rw [HS2.out x y hx hy]
              by_cases e : x = j ∧ y = k
              · obtain ⟨rfl, rfl⟩ := e
                rw [hv]; simp
              · congr 1
                rw [Bool.eq_iff_iff]; simp only [decide_eq_true_eq]; omega)
            clear hv HS2
            go_wp2_with fail
            go_roundw
            case rel => exact ⟨j + 1, ws2, by omega, by go_num, HBM.out, HBEL.out, HS3, HRC2⟩
            case measure => simp [intOf]; omega
        · obtain rfl : j = W := by omega
          have HS3 : Hid (ShowsP ws2 j H f (k + 1) 0) := Lib.hid (fun x y hx hy => by
            rw [HS2.out x y hx hy]; congr 1
            rw [Bool.eq_iff_iff]; simp only [decide_eq_true_eq]; omega)
          clear HS2
          go_wp2_with fail
          go_roundw
          case rel => exact ⟨k + 1, ws2, by omega, by go_num, hbm, hbel, HS3⟩
          case measure => simp [intOf]; omega
    · obtain rfl : k = H := by omega
      have HBM := Lib.hid hbm
      have HM : Hid (∀ x y, x < (W + 31) / 32 * 32 → y < k → mb ws W x y = (decide (x < W) && f y x)) := Lib.hid (fun x y hx hy => by rw [HS.out x y hx hy]; congr 1; rw [Bool.eq_iff_iff]; simp only [decide_eq_true_eq]; omega)
      clear hbm HS
      go_wp2_with fail
      go_ret2
      exact ⟨p, g, ws, rfl, HBM.out, HM, hbel, hp, hg⟩

set_option maxRecDepth 100000 in
set_option maxHeartbeats 1600000 in
theorem gridP (W H : Nat) (hW : 0 < W) (hH : 0 < H) (hWl : W < 1000) (hHl : H < 1000) (f : Nat → Nat → Bool) (A : Option Addr) (c : Nat) (w : World) (h : Rows2 w A H W f) :
    Calls Tryz.prog 12 #[.slice A H c] w fun e w' => ∃ p g ws, e = .returned (.tuple #[.pointer (some ⟨p, 0, none⟩), .nilIface]) ∧ Hid (BM w' p g ws W H) ∧ Hid (∀ x y, x < (W + 31) / 32 * 32 → y < H → mb ws W x y = (decide (x < W) && f y x)) ∧ Below w.heap.size w w' ∧ w.heap.size ≤ p ∧ w.heap.size ≤ g := by
  have HP := Lib.hid (bm_parseP W H hW hH hWl hHl f A c w h)
  clear h
  go_enter Tryz.func12, Tryz.ntmps12
  go_wp2_with fail
  refine HP.out.mono ?_
  rintro e w1 ⟨p, g, ws, rfl, hbm, HM, hb, hp, hg⟩
  have HBM := Lib.hid hbm
  have HB := Lib.hid hb
  clear hbm hb
  go_wp2_with fail
  go_ret2
  exact ⟨p, g, ws, rfl, HBM, HM, HB.out, hp, hg⟩

end Go.Proofs.YtiielblnmfeapaaGreatDoor
namespace Go.Proofs.YtiielblnmfeapaaGreatDoor
open Go.RowKit Go.Qz
set_option linter.unusedVariables false

theorem shr_bit (x r : Nat) (hx : x < 4294967296) : (bits .and .u32 ((x : Int) / 2 ^ r) 1 != 0) = x.testBit r := by
  have e : (x : Int) / 2 ^ r = ((x / 2 ^ r : Nat) : Int) := by simp
  have h1 : x / 2 ^ r < 4294967296 := Nat.lt_of_le_of_lt (Nat.div_le_self _ _) hx
  rw [e, show (1 : Int) = ((1 : Nat) : Int) from rfl, u32_and _ _ h1 (by decide), Nat.and_one_is_mod, Nat.testBit_eq_decide_div_mod_eq]
  rw [Bool.eq_iff_iff]
  simp only [bne_iff_ne, ne_eq, decide_eq_true_eq]
  omega
set_option maxRecDepth 100000 in
set_option maxHeartbeats 800000 in
theorem bm_get (I J : Int) (i j : Nat) (hI : I = i) (hJ : J = j) (p g W H : Nat) (ws : List Nat) (w : World) (h : BM w p g ws W H) (hi : i < W) (hj : j < H) (hW : W < 100000) (hH : H < 100000) :
    Calls Tryz.prog 56 #[.pointer (some ⟨p, 0, none⟩), .int .i64 I, .int .i64 J] w fun e w' => e = .returned (.bool (mb ws W i j)) ∧ w = w' := by
  unfold mb
  have hat := at_lt hi hj
  have hlen := h.len
  have hrow := h.rowSize
  have hwid := h.width
  have hhei := h.height
  obtain ⟨R, hR⟩ : ∃ R, R = (W + 31) / 32 := ⟨_, rfl⟩
  have hR2 : R < 100000 := by omega
  have hjR : j * R < 10000000000 := Nat.lt_of_le_of_lt (Nat.mul_le_mul (show j ≤ 99999 by omega) (show R ≤ 99999 by omega)) (by decide)
  rw [← hR] at hat hlen hrow ⊢
  obtain ⟨jr, hjr⟩ : ∃ jr, jr = j * R := ⟨_, rfl⟩
  rw [← hjr] at hat hjR ⊢
  obtain ⟨q, hq⟩ : ∃ q, q = jr + i / 32 := ⟨_, rfl⟩
  obtain ⟨r, hr⟩ : ∃ r, r = i % 32 := ⟨_, rfl⟩
  rw [← hq] at hat ⊢
  rw [← hr]
  have e0 : J * (R : Int) = (jr : Int) := by rw [hJ, hjr]; simp
  have e1 : (jr : Int) + I / 32 = (q : Int) := by omega
  have e2 : I % 32 = (r : Int) := by omega
  have hr32 : r < 32 := by omega
  have hi0 : 0 ≤ I := by omega
  have hi1 : I < (W : Int) := by omega
  have hj0' : 0 ≤ J := by omega
  have hj1' : J < (H : Int) := by omega
  have hq0 : (0 : Int) ≤ (q : Int) := by omega
  have hql : q < ws.length := by omega
  have hq1 : (q : Int) < (ws.length : Int) := by omega
  have hqb : q < 100000000000 := by omega
  have hj0 : (0 : Int) ≤ (jr : Int) := by omega
  have hj1 : (jr : Int) < 10000000000 := by omega
  have hwr : IntKind.i64.wrap (jr : Int) = (jr : Int) := by rw [IntKind.wrap_i64]; omega
  have hw := h.word hql
  have hx := h.lt _ (nth_mem hql)
  have hbits := h.bits
  have HL := Lib.hid hlen
  have q1 : decide (I < 0) = false := by simp; omega
  have q2 : decide ((W : Int) ≤ I) = false := by simp; omega
  have q3 : decide (J < 0) = false := by simp; omega
  have q4 : decide ((H : Int) ≤ J) = false := by simp; omega
  obtain ⟨x, hxe⟩ : ∃ x, x = nth ws q := ⟨_, rfl⟩
  rw [← hxe] at hw hx ⊢
  have e6 := shr_bit x r hx
  clear hq hr hI hJ hjr hR hat hlen h hjR hxe
  go_enter Tryz.func56, Tryz.ntmps56
  go_wp2_with fail
  go_ret
  exact ⟨rfl, rfl⟩

/-- The first word that is not zero. -/
def FirstAt (ws : List Nat) (W : Nat) (x y : Nat) : Prop := mb ws W x y = true ∧ ∀ x' y', x' < (W + 31) / 32 * 32 → (y' < y ∨ y' = y ∧ x' < x) → mb ws W x' y' = false
def LastAt (ws : List Nat) (W H : Nat) (x y : Nat) : Prop := mb ws W x y = true ∧ ∀ x' y', x' < (W + 31) / 32 * 32 → y' < H → (y < y' ∨ y' = y ∧ x < x') → mb ws W x' y' = false
/-- A word that holds no bit is zero. -/
theorem word_zero {x : Nat} (hx : x < 4294967296) (h : ∀ i, i < 32 → x.testBit i = false) : x = 0 := by
  apply Nat.eq_of_testBit_eq
  intro i
  rw [Nat.zero_testBit]
  by_cases hi : i < 32
  · exact h i hi
  · exact Nat.testBit_lt_two_pow (Nat.lt_of_lt_of_le (show x < 2 ^ 32 by omega) (Nat.pow_le_pow_right (by omega) (by omega)))
theorem mb_word (ws : List Nat) (W y q i : Nat) (hq : q < (W + 31) / 32) (hi : i < 32) : mb ws W (32 * q + i) y = (nth ws (y * ((W + 31) / 32) + q)).testBit i := by
  unfold mb
  rw [show (32 * q + i) / 32 = q from by omega, show (32 * q + i) % 32 = i from by omega]
theorem first_words {ws : List Nat} {W H x y : Nat} (hlt : ∀ z ∈ ws, z < 4294967296) (hlen : ws.length = (W + 31) / 32 * H) (hx : x < W) (hy : y < H) (h : FirstAt ws W x y) :
    (∀ k, k < y * ((W + 31) / 32) + x / 32 → nth ws k = 0) ∧ (nth ws (y * ((W + 31) / 32) + x / 32)).testBit (x % 32) = true ∧ (∀ i, i < x % 32 → (nth ws (y * ((W + 31) / 32) + x / 32)).testBit i = false) := by
  have hR : 0 < (W + 31) / 32 := by omega
  have hxR : x / 32 < (W + 31) / 32 := by omega
  refine ⟨fun k hk => ?_, h.1, fun i hi => ?_⟩
  · have hkl : k < ws.length := by have := at_lt hx hy; omega
    refine word_zero (hlt _ (nth_mem hkl)) (fun i hi => ?_)
    obtain ⟨R, hRe⟩ : ∃ R, R = (W + 31) / 32 := ⟨_, rfl⟩
    have hm := Nat.mod_lt k hR
    have hd := Nat.div_add_mod k ((W + 31) / 32)
    rw [Nat.mul_comm] at hd
    rw [← hd, ← mb_word ws W _ _ i hm hi]
    have hkd : k / ((W + 31) / 32) ≤ y := by
      apply Nat.le_of_lt_succ
      apply Nat.div_lt_of_lt_mul
      rw [Nat.mul_comm, Nat.succ_mul]
      omega
    refine h.2 _ _ (by omega) ?_
    by_cases e : k / ((W + 31) / 32) = y
    · rw [e] at hd
      exact .inr ⟨e, by omega⟩
    · exact .inl (by omega)
  · rw [← mb_word ws W _ _ i hxR (by omega)]
    exact h.2 _ _ (by omega) (.inr ⟨rfl, by omega⟩)
theorem last_words {ws : List Nat} {W H x y : Nat} (hlt : ∀ z ∈ ws, z < 4294967296) (hlen : ws.length = (W + 31) / 32 * H) (hx : x < W) (hy : y < H) (h : LastAt ws W H x y) :
    (∀ k, y * ((W + 31) / 32) + x / 32 < k → k < ws.length → nth ws k = 0) ∧ (nth ws (y * ((W + 31) / 32) + x / 32)).testBit (x % 32) = true ∧ (∀ i, x % 32 < i → i < 32 → (nth ws (y * ((W + 31) / 32) + x / 32)).testBit i = false) := by
  have hR : 0 < (W + 31) / 32 := by omega
  have hxR : x / 32 < (W + 31) / 32 := by omega
  refine ⟨fun k hk hkl => ?_, h.1, fun i hi hi2 => ?_⟩
  · refine word_zero (hlt _ (nth_mem hkl)) (fun i hi => ?_)
    have hm := Nat.mod_lt k hR
    have hd := Nat.div_add_mod k ((W + 31) / 32)
    have hdH : k / ((W + 31) / 32) < H := Nat.div_lt_of_lt_mul (by rw [← hlen]; exact hkl)
    rw [Nat.mul_comm] at hd
    rw [← hd, ← mb_word ws W _ _ i hm hi]
    have hkd : y ≤ k / ((W + 31) / 32) := by
      rw [Nat.le_div_iff_mul_le hR]; omega
    refine h.2 _ _ (by omega) hdH ?_
    by_cases e : k / ((W + 31) / 32) = y
    · rw [e] at hd
      exact .inr ⟨e, by omega⟩
    · exact .inl (by omega)
  · rw [← mb_word ws W _ _ i hxR (by omega)]
    exact h.2 _ _ (by omega) hy (.inr ⟨rfl, by omega⟩)
/-- The low bits of a word, shifted up: zero just if they all are. -/
theorem shl_low {v b : Nat} (hb : b < 32) : ((v : Int) * 2 ^ (31 - b) % 4294967296 == 0) = decide (v % 2 ^ (b + 1) = 0) := by
  have e : (v : Int) * 2 ^ (31 - b) % 4294967296 = ((v * 2 ^ (31 - b) % 4294967296 : Nat) : Int) := by simp
  have e2 : (4294967296 : Nat) = 2 ^ (b + 1) * 2 ^ (31 - b) := by rw [← Nat.pow_add, show b + 1 + (31 - b) = 32 from by omega]
  rw [e, e2, Nat.mul_mod_mul_right]
  have hp : 0 < 2 ^ (31 - b) := Nat.two_pow_pos _
  rw [Bool.eq_iff_iff]
  simp only [beq_iff_eq, decide_eq_true_eq]
  constructor
  · intro h
    have h : v % 2 ^ (b + 1) * 2 ^ (31 - b) = 0 := by exact_mod_cast h
    rcases Nat.mul_eq_zero.1 h with h | h
    · exact h
    · omega
  · intro h; rw [h]; simp
theorem low_zero {v b : Nat} (h : ∀ i, i < b → v.testBit i = false) : v % 2 ^ b = 0 := by
  apply Nat.eq_of_testBit_eq
  intro i
  rw [Nat.testBit_mod_two_pow, Nat.zero_testBit]
  by_cases hi : i < b
  · rw [h i hi]; simp
  · simp [hi]
theorem low_not {v b : Nat} (h : v.testBit b = true) : v % 2 ^ (b + 1) ≠ 0 := fun e => by
  have h1 := Nat.testBit_mod_two_pow v (b + 1) b
  rw [e, h, Nat.zero_testBit] at h1
  simp at h1
/-- Two numbers in a new slice. -/
def TwoPost (x y : Nat) (w : World) (e : Ending) (w' : World) : Prop := ∃ b, e = .returned (.slice (some ⟨b, 0, none⟩) 2 2) ∧ w.heap.size ≤ b ∧ Hid (w'.cell? ⟨b, 0, none⟩ = some (.int .i64 x) ∧ w'.cell? ⟨b, 1, none⟩ = some (.int .i64 y) ∧ b < w'.heap.size) ∧ Below w.heap.size w w'
theorem two_made (w : World) (x y : Nat) : TwoPost x y w (.returned (.slice (some ⟨w.heap.size, 0, none⟩) 2 2)) (w.alloc (.cells #[.int .i64 x, .int .i64 y] 3)) := by
  have h := Arr.new w 3 [.int .i64 x, .int .i64 y]
  exact ⟨_, rfl, Nat.le_refl _, Lib.hid ⟨h.cell? 0, h.cell? 1, h.lt⟩, (Below.refl _ _).alloc (Nat.le_refl _) _⟩

/-- The high bits of a word, shifted down: zero just if they all are. -/
theorem shr_high {v b : Nat} : ((v : Int) / 2 ^ b == 0) = decide (v / 2 ^ b = 0) := by
  have e : (v : Int) / 2 ^ b = ((v / 2 ^ b : Nat) : Int) := by simp
  rw [e, Bool.eq_iff_iff]
  simp only [beq_iff_eq, decide_eq_true_eq]
  omega
theorem high_zero {v b : Nat} (hv : v < 4294967296) (h : ∀ i, b ≤ i → i < 32 → v.testBit i = false) : v / 2 ^ b = 0 := by
  apply Nat.eq_of_testBit_eq
  intro i
  rw [Nat.testBit_div_two_pow, Nat.zero_testBit]
  by_cases hi : i + b < 32
  · exact h _ (by omega) hi
  · exact Nat.testBit_lt_two_pow (Nat.lt_of_lt_of_le (show v < 2 ^ 32 by omega) (Nat.pow_le_pow_right (by omega) (by omega)))
theorem high_not {v b : Nat} (h : v.testBit b = true) : v / 2 ^ b ≠ 0 := fun e => by
  have h1 := (Nat.testBit_div_two_pow v 0 : (v / 2 ^ b).testBit 0 = v.testBit (0 + b))
  rw [e, Nat.zero_testBit, Nat.zero_add, h] at h1
  cases h1
end Go.Proofs.YtiielblnmfeapaaGreatDoor
