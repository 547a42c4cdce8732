/-
  BitMatrix: a pointer to its words, and what its functions do to it: NewBitMatrix, Set; impl.bools, GetRow, SetBulk. No condition beyond the bounds that each theorem states.
-/
import Derived.Test.YtcfcbcjaiplllaaBA
import Derived.Deep.RegionHeld3
import Derived.Deep.QuietTactic
import Derived.BigQuiet
import Derived.WideLaws
namespace Go.Proofs.Ytcfcbcjaiplllaa
open Go.RowKit Go.Qz
set_option linter.unusedVariables false

/-- Block p is a BitMatrix of W by H whose words lie in block g. -/
structure BM (w : World) (p g : Nat) (ws : List Nat) (W H : Nat) : Prop where
  hp : w.heap[p]? = some (.cells #[.int .i64 W, .int .i64 H, .int .i64 ((W + 31) / 32 : Nat), .slice (some ⟨g, 0, none⟩) ws.length ws.length] 96 (0, 0))
  hg : w.heap[g]? = some (.cells (ws.map fun x : Nat => Value.int .u32 x).toArray 88 (0, 0))
  ne : p ≠ g
  lt : ∀ x ∈ ws, x < 4294967296
  len : ws.length = (W + 31) / 32 * H

section
variable {w w' : World} {p g W H : Nat} {ws : List Nat}
theorem BM.width (h : BM w p g ws W H) : w.cell? ⟨p, 0, none⟩ = some (.int .i64 W) := by
  rw [cell_of_row w p 0 _ _ _ h.hp]; rfl
theorem BM.height (h : BM w p g ws W H) : w.cell? ⟨p, 1, none⟩ = some (.int .i64 H) := by
  rw [cell_of_row w p 1 _ _ _ h.hp]; rfl
theorem BM.rowSize (h : BM w p g ws W H) : w.cell? ⟨p, 2, none⟩ = some (.int .i64 ((W + 31) / 32 : Nat)) := by
  rw [cell_of_row w p 2 _ _ _ h.hp]; rfl
theorem BM.bits (h : BM w p g ws W H) : w.cell? ⟨p, 3, none⟩ = some (.slice (some ⟨g, 0, none⟩) ws.length ws.length) := by
  rw [cell_of_row w p 3 _ _ _ h.hp]; rfl
theorem BM.word (h : BM w p g ws W H) {j : Nat} (hj : j < ws.length) : w.cell? ⟨g, j, none⟩ = some (.int .u32 (nth ws j : Nat)) := by
  rw [cell_of_row w g j _ _ _ h.hg]; simp [hj, nth_eq hj]
theorem BM.free (h : BM w p g ws W H) (j : Nat) : w.frozen? ⟨g, j, none⟩ = false := by
  simp [World.frozen?, h.hg]
theorem BM.plt (h : BM w p g ws W H) : p < w.heap.size := (Array.getElem?_eq_some_iff.1 h.hp).1
theorem BM.glt (h : BM w p g ws W H) : g < w.heap.size := (Array.getElem?_eq_some_iff.1 h.hg).1
theorem BM.keep (h : BM w p g ws W H) (h1 : w'.heap[p]? = w.heap[p]?) (h2 : w'.heap[g]? = w.heap[g]?) : BM w' p g ws W H :=
  ⟨h1.trans h.hp, h2.trans h.hg, h.ne, h.lt, h.len⟩
theorem BM.below {B : Nat} (h : BM w p g ws W H) (hb : Below B w w') (hp : p < B) (hg : g < B) : BM w' p g ws W H := h.keep (hb.block _ hp) (hb.block _ hg)
theorem BM.mod {S : Nat → Prop} (h : BM w p g ws W H) (hm : Mod S w w') (hp : ¬ S p) (hg : ¬ S g) : BM w' p g ws W H := h.keep (hm.block _ h.plt hp) (hm.block _ h.glt hg)
theorem BM.alloc (h : BM w p g ws W H) (o : Obj) : BM (w.alloc o) p g ws W H := h.keep (Below.heap_alloc _ _ _ h.plt) (Below.heap_alloc _ _ _ h.glt)
theorem BM.set_ (h : BM w p g ws W H) (j x : Nat) (hx : x < 4294967296) : BM (w.setCell ⟨g, j, none⟩ (.int .u32 x)) p g (ws.set j x) W H := by
  refine ⟨?_, ?_, h.ne, ?_, ?_⟩
  · rw [Below.heap_setCell _ _ _ _ h.ne, List.length_set]; exact h.hp
  · have := h.hg
    simp [World.setCell, Array.getElem?_modify, this, List.map_set]
  · intro y hy
    rcases List.mem_or_eq_of_mem_set hy with h1 | h1
    · exact h.lt y h1
    · rw [h1]; exact hx
  · rw [List.length_set]; exact h.len
end
/-- The module at a place. -/
def mb (ws : List Nat) (W x y : Nat) : Bool := (nth ws (y * ((W + 31) / 32) + x / 32)).testBit (x % 32)
theorem at_lt {W H x y : Nat} (hx : x < W) (hy : y < H) : y * ((W + 31) / 32) + x / 32 < (W + 31) / 32 * H := by
  have h1 : x / 32 < (W + 31) / 32 := by omega
  have h2 : (y + 1) * ((W + 31) / 32) ≤ H * ((W + 31) / 32) := Nat.mul_le_mul_right _ hy
  rw [Nat.mul_comm _ H]
  rw [Nat.add_mul, Nat.one_mul] at h2
  omega
theorem at_inj {W x y x' y' : Nat} (hx : x < W) (hx' : x' < W) (h : y * ((W + 31) / 32) + x / 32 = y' * ((W + 31) / 32) + x' / 32) : y = y' ∧ x / 32 = x' / 32 := by
  have h1 : x / 32 < (W + 31) / 32 := by omega
  have h2 : x' / 32 < (W + 31) / 32 := by omega
  generalize (W + 31) / 32 = R at *
  have h3 : y = y' := by
    rcases Nat.lt_trichotomy y y' with a | a | a
    · have := Nat.mul_le_mul_right R (show y + 1 ≤ y' from a)
      rw [Nat.add_mul, Nat.one_mul] at this; omega
    · exact a
    · have := Nat.mul_le_mul_right R (show y' + 1 ≤ y from a)
      rw [Nat.add_mul, Nat.one_mul] at this; omega
  subst h3
  exact ⟨rfl, by omega⟩
theorem mb_zeros (m W x y : Nat) : mb (List.replicate m 0) W x y = false := by
  unfold mb
  rw [nth_replicate]
  split <;> simp
theorem mb_set (ws : List Nat) (W H x y i j : Nat) (hlen : ws.length = (W + 31) / 32 * H) (hi : i < W) (hj : j < H) (hx : x < W) :
    mb (ws.set (j * ((W + 31) / 32) + i / 32) (nth ws (j * ((W + 31) / 32) + i / 32) ||| 2 ^ (i % 32))) W x y = (mb ws W x y || decide (x = i ∧ y = j)) := by
  unfold mb
  rw [nth_set (by rw [hlen]; exact at_lt hi hj)]
  by_cases h : y * ((W + 31) / 32) + x / 32 = j * ((W + 31) / 32) + i / 32
  · obtain ⟨h1, h2⟩ := at_inj hx hi h
    rw [if_pos h, h, Nat.testBit_or, Nat.testBit_two_pow]
    congr 1
    rw [Bool.eq_iff_iff]
    simp only [decide_eq_true_eq]
    omega
  · rw [if_neg h]
    have : ¬ (x = i ∧ y = j) := by rintro ⟨rfl, rfl⟩; exact h rfl
    simp [this]

set_option maxRecDepth 100000 in
set_option maxHeartbeats 800000 in
theorem bm_set (I J : Int) (i j : Nat) (hI : I = i) (hJ : J = j) (p g W H : Nat) (ws : List Nat) (w : World) (h : BM w p g ws W H) (hi : i < W) (hj : j < H) (hW : W < 100000) (hH : H < 100000) :
    Calls Try.prog 29 #[.pointer (some ⟨p, 0, none⟩), .int .i64 I, .int .i64 J] w fun e w' => e = .returned (.tuple #[]) ∧ w' = w.setCell ⟨g, j * ((W + 31) / 32) + i / 32, none⟩ (.int .u32 ((nth ws (j * ((W + 31) / 32) + i / 32) ||| 2 ^ (i % 32) : Nat) : Int)) := by
  have hat := at_lt hi hj
  have hlen := h.len
  have hrow := h.rowSize
  obtain ⟨R, hR⟩ : ∃ R, R = (W + 31) / 32 := ⟨_, rfl⟩
  have hR2 : R < 100000 := by omega
  have hjR : j * R < 10000000000 := Nat.lt_of_le_of_lt (Nat.mul_le_mul (show j ≤ 99999 by omega) (show R ≤ 99999 by omega)) (by decide)
  rw [← hR] at hat hlen hrow ⊢
  obtain ⟨jr, hjr⟩ : ∃ jr, jr = j * R := ⟨_, rfl⟩
  rw [← hjr] at hat hjR ⊢
  obtain ⟨q, hq⟩ : ∃ q, q = jr + i / 32 := ⟨_, rfl⟩
  obtain ⟨r, hr⟩ : ∃ r, r = i % 32 := ⟨_, rfl⟩
  rw [← hq] at hat ⊢
  rw [← hr]
  have e0 : J * (R : Int) = (jr : Int) := by rw [hJ, hjr]; simp
  have e1 : (jr : Int) + I / 32 = (q : Int) := by omega
  have e2 : I % 32 = (r : Int) := by omega
  have hr32 : r < 32 := by omega
  have hi0 : 0 ≤ I := by omega
  have hi1 : I < 1000000 := by omega
  have hq0 : (0 : Int) ≤ (q : Int) := by omega
  have hql : q < ws.length := by omega
  have hq1 : (q : Int) < (ws.length : Int) := by omega
  have hqb : q < 100000000000 := by omega
  have hj0 : (0 : Int) ≤ (jr : Int) := by omega
  have hj1 : (jr : Int) < 10000000000 := by omega
  have hwr : IntKind.i64.wrap (jr : Int) = (jr : Int) := by rw [IntKind.wrap_i64]; omega
  have hw := h.word hql
  have hx := h.lt _ (nth_mem hql)
  have e3 := u32_pow r hr32
  have hp2 : 2 ^ r < 4294967296 := by
    have h1 : 2 ^ r ≤ 2 ^ 31 := Nat.pow_le_pow_right (by omega) (by omega)
    omega
  have e4 := u32_or _ _ hx hp2
  have hbits := h.bits
  have hfree := h.free q
  have HL := Lib.hid hlen
  clear hq hr hI hJ hjr hR hat hlen h hjR
  generalize 2 ^ r = P at *
  go_enter Try.func29, Try.ntmps29
  go_wp2_with fail
  go_end0
  exact ⟨rfl, rfl⟩

theorem BM.made (w : World) (m W H : Nat) (hm : m = (W + 31) / 32 * H) : BM ((w.alloc (.cells (zeros m (.int .u32 0)) 88)).alloc (.cells #[.int .i64 W, .int .i64 H, .int .i64 ((W + 31) / 32 : Nat), .slice (some ⟨w.heap.size, 0, none⟩) m m] 96)) (w.heap.size + 1) w.heap.size (List.replicate m 0) W H := by
  refine ⟨?_, ?_, by omega, ?_, ?_⟩
  · rw [List.length_replicate]
    have := heap_alloc_new (w.alloc (.cells (zeros m (.int .u32 0)) 88)) (.cells #[.int .i64 W, .int .i64 H, .int .i64 ((W + 31) / 32 : Nat), .slice (some ⟨w.heap.size, 0, none⟩) m m] 96)
    simpa using this
  · rw [Below.heap_alloc _ _ _ (by simp), heap_alloc_new]
    simp [zeros]
  · intro x hx
    rw [(List.mem_replicate.1 hx).2]; omega
  · rw [List.length_replicate, hm]

set_option maxRecDepth 100000 in
set_option maxHeartbeats 800000 in
theorem bm_new (W H : Nat) (hW : 0 < W) (hH : 0 < H) (hWl : W < 10000) (hHl : H < 10000) (w : World) :
    Calls Try.prog 38 #[.int .i64 W, .int .i64 H] w fun e w' => ∃ p g, e = .returned (.tuple #[.pointer (some ⟨p, 0, none⟩), .nilIface]) ∧ BM w' p g (List.replicate ((W + 31) / 32 * H) 0) W H ∧ Below w.heap.size w w' ∧ w.heap.size ≤ p ∧ w.heap.size ≤ g := by
  have HM := Lib.hid (BM.made w ((W + 31) / 32 * H) W H rfl)
  obtain ⟨R, hR⟩ : ∃ R, R = (W + 31) / 32 := ⟨_, rfl⟩
  rw [← hR] at HM ⊢
  obtain ⟨m, hm⟩ : ∃ m, m = R * H := ⟨_, rfl⟩
  rw [← hm] at HM ⊢
  have hml : m ≤ 100000000 := by rw [hm]; exact Nat.mul_le_mul (show R ≤ 10000 by omega) (show H ≤ 10000 by omega)
  have e1 : ((W : Int) + 31) / 32 = (R : Int) := by omega
  have e2 : (R : Int) * (H : Int) = (m : Int) := by rw [hm]; simp
  have hwr : IntKind.i64.wrap (m : Int) = (m : Int) := by rw [IntKind.wrap_i64]; omega
  have hmk := fun W => run_make1 (P := Try.prog) 90 88 (.int .u32 0) 4 Try.underlying90 Try.infoU32 rfl (by decide) m (by omega) .i64 .i64 m rfl W
  have g1 : decide ((W : Int) < 1) = false := by simp; omega
  have g2 : decide ((H : Int) < 1) = false := by simp; omega
  have g3 : (1 : Int) ≤ (W : Int) := by omega
  have g4 : (1 : Int) ≤ (H : Int) := by omega
  clear hR hm
  go_enter Try.func38, Try.ntmps38
  go_wp2_with fail
  go_ret2
  exact ⟨w.heap.size + 1, w.heap.size, rfl, HM.out, ((Below.refl _ _).alloc (Nat.le_refl _) _).alloc (by simp) _, Nat.le_succ _, Nat.le_refl _⟩

set_option maxRecDepth 100000 in
set_option maxHeartbeats 800000 in
theorem ba_bulk (I : Int) (k : Nat) (hI : I = k * 32) (x : Nat) (p g n : Nat) (ws : List Nat) (w : World) (h : BA w p g ws n) (hk : k < ws.length) (hb : k < 1000000) :
    Calls Try.prog 57 #[.pointer (some ⟨p, 0, none⟩), .int .i64 I, .int .u32 x] w fun e w' => e = .returned (.tuple #[]) ∧ w' = w.setCell ⟨g, k, none⟩ (.int .u32 x) := by
  have e1 : I / 32 = (k : Int) := by omega
  have h0 : 0 ≤ I := by omega
  have h1 : I < 100000000 := by omega
  have hk0 : (0 : Int) ≤ (k : Int) := by omega
  have hk1 : (k : Int) < (ws.length : Int) := by omega
  have hw := h.word hk
  have hbits := h.bits
  have hfree := h.free k
  clear hI h
  go_enter Try.func57, Try.ntmps57
  go_wp2_with fail
  go_end0
  exact ⟨rfl, rfl⟩

theorem Try.infoBool' : (Try.prog.info? 4).map (fun i => (i.zero, i.size, i.bytes)) = some (some (.bool false), 1, 1) := by kernel_rfl
/-- A list of bools that is made from the front. -/
def upB (n : Nat) (g : Nat → Bool) (i : Nat) : List Bool := (List.range n).map fun j => decide (j < i) && g j
/-- Block b is just these bools. -/
def BL (w : World) (b : Nat) (l : List Bool) : Prop := Arr w 4 b (l.map Value.bool)
theorem BL.arr {w : World} {b : Nat} {l : List Bool} (h : BL w b l) : Arr w 4 b (l.map Value.bool) := h
theorem BL.cell {w : World} {b n i j : Nat} {g : Nat → Bool} (h : BL w b (upB n g i)) (hj : j < n) : w.cell? ⟨b, j, none⟩ = some (.bool (decide (j < i) && g j)) := by
  rw [h.arr.cell?]; simp [upB, hj]
theorem BL.set_ {w : World} {b n i : Nat} {g : Nat → Bool} (h : BL w b (upB n g i)) : BL (w.setCell ⟨b, i, none⟩ (.bool (g i))) b (upB n g (i + 1)) := by
  have h2 := h.arr.set_ i (.bool (g i))
  have e : ((upB n g i).map Value.bool).set i (.bool (g i)) = (upB n g (i + 1)).map Value.bool := by
    apply List.ext_getElem (by simp [upB])
    intro j h1 h2
    simp only [upB, List.getElem_set, List.getElem_map, List.getElem_range]
    by_cases e : i = j
    · subst e; simp
    · rw [if_neg e]
      congr 2
      rw [Bool.eq_iff_iff]; simp; omega
  rw [e] at h2
  exact h2
theorem BL.zeros (w : World) (n : Nat) (g : Nat → Bool) : BL (w.alloc (.cells (zeros n (.bool false)) 4)) w.heap.size (upB n g 0) := by
  have := Arr.new w 4 (List.replicate n (Value.bool false))
  have e : (upB n g 0).map Value.bool = List.replicate n (Value.bool false) := by
    apply List.ext_getElem (by simp [upB])
    intro j h1 h2
    simp [upB]
  unfold BL
  rw [e]; exact this
theorem BL.rd {w : World} {b n : Nat} {g : Nat → Bool} (h : BL w b (upB n g n)) : Rd w (some ⟨b, 0, none⟩) n (fun j => .bool (g j)) := fun h0 => by
  refine ⟨b, 0, rfl, h.arr.lt, fun j hj => ?_⟩
  rw [Nat.zero_add, h.cell hj]
  simp [hj]
theorem BL.len (n : Nat) (g : Nat → Bool) (i : Nat) : (upB n g i).length = n := by simp [upB]

set_option maxRecDepth 100000 in
set_option maxHeartbeats 1600000 in
theorem ba_bools (p g n : Nat) (ws : List Nat) (w : World) (h : BA w p g ws n) (hn : n < 100000) (hl : ws.length = (n + 31) / 32) :
    Calls Try.prog 24 #[.pointer (some ⟨p, 0, none⟩)] w fun e w' => ∃ b, e = .returned (.slice (some ⟨b, 0, none⟩) n n) ∧ Rd w' (some ⟨b, 0, none⟩) n (fun j => .bool (bit ws j)) ∧ Below w.heap.size w w' := by
  have hmk := fun W => run_make1 (P := Try.prog) 22 4 (.bool false) 1 Try.underlying22 Try.infoBool' rfl (by decide) n (by omega) .i64 .i64 n rfl W
  have HL := Lib.hid hl
  have HH := Lib.hid h
  obtain ⟨f, hf⟩ : ∃ f : Nat → Bool, f = fun j => bit ws j := ⟨_, rfl⟩
  have hI := BL.zeros w n f
  have hb0 : Below w.heap.size w (w.alloc (.cells (zeros n (.bool false)) 4)) := (Below.refl _ _).alloc (Nat.le_refl _) _
  have hp := h.plt
  have hg := h.glt
  have HF := Lib.hid hf
  clear hl h hf
  go_enter Try.func24, Try.ntmps24
  go_wp2_with fail
  refine (ba_size p g n ws w HH.out).mono ?_
  rintro e w1 ⟨rfl, rfl⟩
  go_wp2_with fail
  obtain ⟨M, hM⟩ : ∃ M, M = w.heap.size := ⟨_, rfl⟩
  rw [← hM] at hI hb0 hp hg ⊢
  have HMM := Lib.hid hM
  clear hM hmk
  go_loopw [10] (fun i wr => ∃ k : Nat, k ≤ n ∧ i = .int .i64 k ∧ BL wr M (upB n f k) ∧ Below M w wr) (fun i _ => n - (intOf i).toNat)
  case atStart => exact ⟨0, by omega, rfl, hI, hb0⟩
  case round =>
    obtain ⟨k, hk, rfl, hI2, hB2⟩ := hrel
    clear hI hb0
    by_cases hlt : k < n
    · have hcell := hI2.cell hlt
      have hfree := hI2.arr.free k
      have hI3 := hI2.set_
      have hk0 : (0 : Int) ≤ (k : Int) := by omega
      have hk1 : (k : Int) < (n : Int) := by omega
      have hg2 := ba_get (k : Int) k rfl p g n ws wr (HH.out.below hB2 hp hg) (by have := HL.out; omega) (by omega)
      have hfk : f k = bit ws k := by rw [HF.out]
      rw [← hfk] at hg2
      have hz : (decide (k < k) && f k) = false := by simp
      rw [hz] at hcell
      obtain ⟨v, hv⟩ : ∃ v, v = f k := ⟨_, rfl⟩
      rw [← hv] at hg2 hI3
      have HG := Lib.hid hg2
      have HI3 := Lib.hid hI3
      have HB3 := Lib.hid (hB2.setCell (p := ⟨M, k, none⟩) (Nat.le_refl _) (.bool v))
      clear hI2 hB2 hI3 hg2 hfk hv hz
      go_wp2_with fail
      refine HG.out.mono ?_
      rintro e w1 ⟨rfl, rfl⟩
      go_wp2_with fail
      go_roundw
      case rel => exact ⟨k + 1, by omega, by go_num, HI3.out, HB3.out⟩
      case measure => simp [intOf]; omega
    · obtain rfl : k = n := by omega
      have hrd := hI2.rd
      have HR : Hid (Rd wr (some ⟨M, 0, none⟩) k (fun j => .bool (bit ws j))) := Lib.hid (by have := HF.out; rw [this] at hrd; exact hrd)
      clear hI2 hrd
      go_wp2_with fail
      go_ret
      exact ⟨M, rfl, HR.out, by rw [← HMM.out]; exact hB2⟩

/-- What was read from the first words of a row. -/
def rowOf (ws : List Nat) (R y k : Nat) : List Nat := (List.range R).map fun j => if j < k then nth ws (y * R + j) else 0
theorem rowOf_set (ws : List Nat) (R y k : Nat) : (rowOf ws R y k).set k (nth ws (y * R + k)) = rowOf ws R y (k + 1) := by
  apply List.ext_getElem (by simp [rowOf])
  intro j h1 h2
  simp only [rowOf, List.getElem_set, List.getElem_map, List.getElem_range]
  by_cases e : k = j
  · subst e; rw [if_pos rfl, if_pos (by omega)]
  · rw [if_neg e]
    by_cases h : j < k
    · rw [if_pos h, if_pos (by omega)]
    · rw [if_neg h, if_neg (by omega)]
theorem rowOf_zero (ws : List Nat) (R y : Nat) : rowOf ws R y 0 = List.replicate R 0 := by
  apply List.ext_getElem (by simp [rowOf])
  intro j h1 h2
  simp [rowOf]
theorem rowOf_bit (ws : List Nat) (W y x : Nat) (hx : x < W) : bit (rowOf ws ((W + 31) / 32) y ((W + 31) / 32)) x = mb ws W x y := by
  unfold bit mb rowOf
  rw [nth_map_range _ _ _ (by omega), if_pos (by omega)]

set_option maxRecDepth 100000 in
set_option maxHeartbeats 1600000 in
theorem bm_row (p g W H y : Nat) (ws : List Nat) (w : World) (h : BM w p g ws W H) (hy : y < H) (hW : 0 < W) (hWl : W < 10000) (hHl : H < 10000) :
    Calls Try.prog 25 #[.pointer (some ⟨p, 0, none⟩), .int .i64 y, .pointer none] w fun e w' => ∃ q r, e = .returned (.pointer (some ⟨q, 0, none⟩)) ∧ BA w' q r (rowOf ws ((W + 31) / 32) y ((W + 31) / 32)) W ∧ Below w.heap.size w w' := by
  have hw0 := h.width
  have hrow := h.rowSize
  have hbits := h.bits
  have hlen := h.len
  have hp := h.plt
  have hg := h.glt
  have HN := Lib.hid (fun w => ba_new (W : Int) W rfl (by omega) w)
  obtain ⟨R, hR⟩ : ∃ R, R = (W + 31) / 32 := ⟨_, rfl⟩
  have hR1 : R < 1000 := by omega
  have hyR : y * R < 10000000 := Nat.lt_of_le_of_lt (Nat.mul_le_mul (show y ≤ 9999 by omega) (show R ≤ 999 by omega)) (by decide)
  have hyRl : ∀ k, k < R → y * R + k < ws.length := fun k hk => by
    have h2 := Nat.mul_le_mul_right R (show y + 1 ≤ H from hy)
    rw [Nat.add_mul, Nat.one_mul] at h2
    rw [hlen, ← hR, Nat.mul_comm R H]
    omega
  rw [← hR] at hrow HN ⊢
  obtain ⟨yr, hyr⟩ : ∃ yr, yr = y * R := ⟨_, rfl⟩
  have eyr : (y : Int) * (R : Int) = (yr : Int) := by rw [hyr]; simp
  have hyrl : yr < 10000000 := by omega
  have hwr : IntKind.i64.wrap (yr : Int) = (yr : Int) := by rw [IntKind.wrap_i64]; omega
  have HYL := Lib.hid hyRl
  have HYR := Lib.hid hyr
  have HH := Lib.hid h
  have HWR := Lib.hid (show ∀ x ∈ ws, x < 4294967296 from h.lt)
  clear hyRl hyr hR hyR h hlen
  go_enter Try.func25, Try.ntmps25
  go_wp2_with fail
  go_quiet (fail)
  have hbn : Below w.heap.size w (w.drewN nq) := below_drewN (Below.refl _ _) _
  obtain ⟨W1, hW1⟩ : ∃ W1, W1 = w.drewN nq := ⟨_, rfl⟩
  rw [← hW1] at hbn ⊢
  clear hW1
  have d0 : W1.cell? ⟨p, 0, none⟩ = some (.int .i64 W) := (hbn.cell (p := ⟨p, 0, none⟩) hp).trans hw0
  have d2 : W1.cell? ⟨p, 2, none⟩ = some (.int .i64 (R : Nat)) := (hbn.cell (p := ⟨p, 2, none⟩) hp).trans hrow
  have HBN := Lib.hid hbn
  clear hbn
  go_wp2_with fail
  refine (HN.out _).mono ?_
  rintro e w2 ⟨q, r, rfl, hba, hb2, hq, hr⟩
  have hb2' := HBN.out.trans (hb2.mono HBN.out.size)
  have hqw := HBN.out.size
  have d2' : w2.cell? ⟨p, 2, none⟩ = some (.int .i64 (R : Nat)) := (hb2'.cell (p := ⟨p, 2, none⟩) hp).trans hrow
  rw [← rowOf_zero ws R y] at hba
  have HBA := Lib.hid hba
  have HB2 := Lib.hid hb2'
  clear hba hb2 hb2' d0 d2
  go_wp2_with fail
  go_loopw [8] (fun i wr => ∃ k : Nat, k ≤ R ∧ i = .int .i64 k ∧ BA wr q r (rowOf ws R y k) W ∧ Below w.heap.size w wr) (fun i _ => R - (intOf i).toNat)
  case atStart => exact ⟨0, by omega, rfl, HBA.out, HB2.out⟩
  case round =>
    obtain ⟨k, hk, rfl, hba, hbel⟩ := hrel
    clear HBA HB2 d2'
    have c2 : wr.cell? ⟨p, 2, none⟩ = some (.int .i64 (R : Nat)) := (hbel.cell (p := ⟨p, 2, none⟩) hp).trans hrow
    by_cases hlt : k < R
    · have c3 : wr.cell? ⟨p, 3, none⟩ = some (.slice (some ⟨g, 0, none⟩) ws.length ws.length) := (hbel.cell (p := ⟨p, 3, none⟩) hp).trans hbits
      obtain ⟨o, ho⟩ : ∃ o, o = yr + k := ⟨_, rfl⟩
      have eo : (yr : Int) + (k : Int) = (o : Int) := by omega
      have hol : o < ws.length := by have := HYL.out k hlt; rw [← HYR.out] at this; omega
      have ho0 : (0 : Int) ≤ (o : Int) := by omega
      have ho1 : (o : Int) < (ws.length : Int) := by omega
      have co : wr.cell? ⟨g, o, none⟩ = some (.int .u32 (nth ws o : Nat)) := (hbel.cell (p := ⟨g, o, none⟩) hg).trans (HH.out.word hol)
      have hx := HWR.out _ (nth_mem hol)
      have hlr : (rowOf ws R y k).length = R := by simp [rowOf]
      have hk1 : (k : Int) < (R : Int) := by omega
      obtain ⟨x, hxd⟩ : ∃ x, x = nth ws o := ⟨_, rfl⟩
      have HBU := Lib.hid (ba_bulk ((k : Int) * 32) k (by omega) x q r W (rowOf ws R y k) wr hba (by omega) (by omega))
      have hba2 := hba.set_ k x (by rw [hxd]; exact hx)
      have hset : (rowOf ws R y k).set k x = rowOf ws R y (k + 1) := by rw [hxd, ho, HYR.out, rowOf_set]
      rw [hset] at hba2
      have HBA2 := Lib.hid hba2
      have HB2 := Lib.hid (hbel.setCell (p := ⟨r, k, none⟩) (by dsimp only; omega) (.int .u32 x))
      rw [← hxd] at co
      clear hba hba2 hbel hset hlr ho hxd hx
      go_wp2_with fail
      refine HBU.out.mono ?_
      rintro e w3 ⟨rfl, rfl⟩
      go_wp2_with fail
      go_roundw
      case rel => exact ⟨k + 1, by omega, by go_num, HBA2.out, HB2.out⟩
      case measure => simp [intOf]; omega
    · obtain rfl : k = R := by omega
      have HBA2 := Lib.hid hba
      clear hba
      go_wp2_with fail
      go_ret
      exact ⟨q, r, rfl, HBA2.out, hbel⟩
end Go.Proofs.Ytcfcbcjaiplllaa
