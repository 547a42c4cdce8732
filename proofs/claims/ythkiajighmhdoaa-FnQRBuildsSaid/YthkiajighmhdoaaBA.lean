/-
  BitArray: a pointer to its words, and what its functions do to it: NewBitArray, Set, Get, GetSize, and impl.array. No condition beyond the bounds that each theorem states.
-/
import Derived.Test.YthkiajighmhdoaaRows
import Derived.Test.YthkiajighmhdoaaBase
namespace Go.Proofs.Ythkiajighmhdoaa
open Go.RowKit Go.Qz
set_option linter.unusedVariables false

/-- Block p is a BitArray of n bits whose words lie in block g. -/
structure BA (w : World) (p g : Nat) (ws : List Nat) (n : Nat) : Prop where
  hp : w.heap[p]? = some (.cells #[.slice (some ⟨g, 0, none⟩) ws.length ws.length, .int .i64 n] 178 (0, 0))
  hg : w.heap[g]? = some (.cells (ws.map fun x : Nat => Value.int .u32 x).toArray 179 (0, 0))
  ne : p ≠ g
  lt : ∀ x ∈ ws, x < 4294967296

section
variable {w w' : World} {p g n : Nat} {ws : List Nat}
theorem BA.bits (h : BA w p g ws n) : w.cell? ⟨p, 0, none⟩ = some (.slice (some ⟨g, 0, none⟩) ws.length ws.length) := by
  rw [cell_of_row w p 0 _ _ _ h.hp]; rfl
theorem BA.size (h : BA w p g ws n) : w.cell? ⟨p, 1, none⟩ = some (.int .i64 n) := by
  rw [cell_of_row w p 1 _ _ _ h.hp]; rfl
theorem BA.word (h : BA w p g ws n) {j : Nat} (hj : j < ws.length) : w.cell? ⟨g, j, none⟩ = some (.int .u32 (nth ws j : Nat)) := by
  rw [cell_of_row w g j _ _ _ h.hg]; simp [hj, nth_eq hj]
theorem BA.free (h : BA w p g ws n) (j : Nat) : w.frozen? ⟨g, j, none⟩ = false := by
  simp [World.frozen?, h.hg]
theorem BA.freep (h : BA w p g ws n) (j : Nat) : w.frozen? ⟨p, j, none⟩ = false := by
  simp [World.frozen?, h.hp]
theorem BA.plt (h : BA w p g ws n) : p < w.heap.size := (Array.getElem?_eq_some_iff.1 h.hp).1
theorem BA.glt (h : BA w p g ws n) : g < w.heap.size := (Array.getElem?_eq_some_iff.1 h.hg).1
theorem BA.keep (h : BA w p g ws n) (h1 : w'.heap[p]? = w.heap[p]?) (h2 : w'.heap[g]? = w.heap[g]?) : BA w' p g ws n :=
  ⟨h1.trans h.hp, h2.trans h.hg, h.ne, h.lt⟩
theorem BA.below {B : Nat} (h : BA w p g ws n) (hb : Below B w w') (hp : p < B) (hg : g < B) : BA w' p g ws n := h.keep (hb.block _ hp) (hb.block _ hg)
theorem BA.alloc (h : BA w p g ws n) (o : Obj) : BA (w.alloc o) p g ws n := h.keep (Below.heap_alloc _ _ _ h.plt) (Below.heap_alloc _ _ _ h.glt)
theorem BA.set_ (h : BA w p g ws n) (j x : Nat) (hx : x < 4294967296) : BA (w.setCell ⟨g, j, none⟩ (.int .u32 x)) p g (ws.set j x) n := by
  refine ⟨?_, ?_, h.ne, ?_⟩
  · rw [Below.heap_setCell _ _ _ _ h.ne, List.length_set]; exact h.hp
  · have := h.hg
    simp [World.setCell, Array.getElem?_modify, this, List.map_set]
  · intro y hy
    rcases List.mem_or_eq_of_mem_set hy with h1 | h1
    · exact h.lt y h1
    · rw [h1]; exact hx
end

theorem u32_pow (r : Nat) (h : r < 32) : IntKind.u32.wrap (2 ^ r) = ((2 ^ r : Nat) : Int) := by
  have h1 : 2 ^ r ≤ 2 ^ 31 := Nat.pow_le_pow_right (by omega) (by omega)
  rw [IntKind.wrap_u32]
  have h2 : ((2 ^ r : Nat) : Int) = (2 : Int) ^ r := by simp
  rw [← h2]
  generalize 2 ^ r = x at *
  omega
theorem u32_ofInt (a : Nat) (ha : a < 4294967296) : (BitVec.ofInt 32 (a : Int)).toNat = a := by
  rw [BitVec.ofInt_natCast, BitVec.toNat_ofNat]; exact Nat.mod_eq_of_lt (by omega)
theorem u32_or (a b : Nat) (ha : a < 4294967296) (hb : b < 4294967296) : bits .or .u32 (a : Int) (b : Int) = ((a ||| b : Nat) : Int) := by
  have hx : a ||| b < 2 ^ 32 := Nat.or_lt_two_pow (by omega) (by omega)
  show IntKind.u32.wrap ((BitVec.ofInt 32 (a : Int) ||| BitVec.ofInt 32 (b : Int)).toNat : Int) = _
  rw [BitVec.toNat_or, u32_ofInt a ha, u32_ofInt b hb, IntKind.wrap_u32]
  omega
theorem u32_and (a b : Nat) (ha : a < 4294967296) (hb : b < 4294967296) : bits .and .u32 (a : Int) (b : Int) = ((a &&& b : Nat) : Int) := by
  have hx : a &&& b < 2 ^ 32 := Nat.and_lt_two_pow _ (by omega)
  show IntKind.u32.wrap ((BitVec.ofInt 32 (a : Int) &&& BitVec.ofInt 32 (b : Int)).toNat : Int) = _
  rw [BitVec.toNat_and, u32_ofInt a ha, u32_ofInt b hb, IntKind.wrap_u32]
  omega
theorem u32_xor (a b : Nat) (ha : a < 4294967296) (hb : b < 4294967296) : bits .xor .u32 (a : Int) (b : Int) = ((a ^^^ b : Nat) : Int) := by
  have hx : a ^^^ b < 2 ^ 32 := Nat.xor_lt_two_pow (by omega) (by omega)
  show IntKind.u32.wrap ((BitVec.ofInt 32 (a : Int) ^^^ BitVec.ofInt 32 (b : Int)).toNat : Int) = _
  rw [BitVec.toNat_xor, u32_ofInt a ha, u32_ofInt b hb, IntKind.wrap_u32]
  omega

set_option maxRecDepth 100000 in
set_option maxHeartbeats 800000 in
theorem ba_set (I : Int) (i : Nat) (hI : I = i) (p g n : Nat) (ws : List Nat) (w : World) (h : BA w p g ws n) (hi : i / 32 < ws.length) (hb : i < 1000000000) :
    Calls Try.prog 73 #[.pointer (some ⟨p, 0, none⟩), .int .i64 I] w fun e w' => e = .returned (.tuple #[]) ∧ w' = w.setCell ⟨g, i / 32, none⟩ (.int .u32 ((nth ws (i / 32) ||| 2 ^ (i % 32) : Nat) : Int)) := by
  obtain ⟨q, hq⟩ : ∃ q, q = i / 32 := ⟨_, rfl⟩
  obtain ⟨r, hr⟩ : ∃ r, r = i % 32 := ⟨_, rfl⟩
  rw [← hq] at hi ⊢
  rw [← hr]
  have h0 : 0 ≤ I := by omega
  have h1 : I < 1000000000 := by omega
  have e1 : I / 32 = (q : Int) := by omega
  have e2 : I % 32 = (r : Int) := by omega
  have hr32 : r < 32 := by omega
  have hw := h.word hi
  have hx := h.lt _ (nth_mem hi)
  have e3 := u32_pow r hr32
  have hp2 : 2 ^ r < 4294967296 := by
    have h1 : 2 ^ r ≤ 2 ^ 31 := Nat.pow_le_pow_right (by omega) (by omega)
    omega
  have e4 := u32_or _ _ hx hp2
  have hbits := h.bits
  have hfree := h.free q
  clear hq hr hI
  generalize 2 ^ r = P at *
  go_enter Try.func73, Try.ntmps73
  go_wp2_with fail
  go_end0
  exact ⟨rfl, rfl⟩

/-- The i-th bit of words. -/
def bit (ws : List Nat) (i : Nat) : Bool := (nth ws (i / 32)).testBit (i % 32)

theorem and_pow_ne (x r : Nat) : (((x &&& 2 ^ r : Nat) : Int) != 0) = x.testBit r := by
  cases h : x.testBit r
  · have h0 : x &&& 2 ^ r = 0 := by
      apply Nat.eq_of_testBit_eq
      intro i
      rw [Nat.testBit_and, Nat.testBit_two_pow, Nat.zero_testBit]
      by_cases hi : r = i
      · subst hi; simp [h]
      · simp [hi]
    rw [h0]; rfl
  · rw [bne_iff_ne]
    intro h0
    have h1 : x &&& 2 ^ r = 0 := by omega
    have h2 : (x &&& 2 ^ r).testBit r = true := by rw [Nat.testBit_and, Nat.testBit_two_pow_self, h]; rfl
    rw [h1, Nat.zero_testBit] at h2
    cases h2

set_option maxRecDepth 100000 in
set_option maxHeartbeats 800000 in
theorem ba_get (I : Int) (i : Nat) (hI : I = i) (p g n : Nat) (ws : List Nat) (w : World) (h : BA w p g ws n) (hi : i / 32 < ws.length) (hb : i < 1000000000) :
    Calls Try.prog 93 #[.pointer (some ⟨p, 0, none⟩), .int .i64 I] w fun e w' => e = .returned (.bool (bit ws i)) ∧ w = w' := by
  unfold bit
  obtain ⟨q, hq⟩ : ∃ q, q = i / 32 := ⟨_, rfl⟩
  obtain ⟨r, hr⟩ : ∃ r, r = i % 32 := ⟨_, rfl⟩
  rw [← hq] at hi ⊢
  rw [← hr]
  have h0 : 0 ≤ I := by omega
  have h1 : I < 1000000000 := by omega
  have e1 : I / 32 = (q : Int) := by omega
  have e2 : I % 32 = (r : Int) := by omega
  have hr32 : r < 32 := by omega
  have hw := h.word hi
  have hx := h.lt _ (nth_mem hi)
  have e3 := u32_pow r hr32
  have hp2 : 2 ^ r < 4294967296 := by
    have h1 : 2 ^ r ≤ 2 ^ 31 := Nat.pow_le_pow_right (by omega) (by omega)
    omega
  have e4 := u32_and _ _ hx hp2
  have e5 := and_pow_ne (nth ws q) r
  have hbits := h.bits
  clear hq hr hI
  generalize (nth ws q).testBit r = B at *
  generalize 2 ^ r = P at *
  generalize nth ws q &&& P = X at *
  go_enter Try.func93, Try.ntmps93
  go_wp2_with fail
  go_ret
  exact ⟨rfl, rfl⟩

theorem Try.infoU32 : (Try.prog.info? 179).map (fun i => (i.zero, i.size, i.bytes)) = some (some (.int .u32 0), 1, 4) := by kernel_rfl

set_option maxRecDepth 100000 in
set_option maxHeartbeats 800000 in
theorem make_words (I : Int) (n m : Nat) (hI : I = n) (hn : n < 1000000000) (hm : m = (n + 31) / 32) (w : World) :
    Calls Try.prog 104 #[.int .i64 I] w fun e w' => e = .returned (.slice (some ⟨w.heap.size, 0, none⟩) m m) ∧ w' = w.alloc (.cells (zeros m (.int .u32 0)) 179) := by
  have h0 : 0 ≤ I := by omega
  have h1 : I < 1000000000 := by omega
  have e1 : (I + 31) / 32 = (m : Int) := by omega
  have hmk := fun W => run_make1 (P := Try.prog) 175 179 (.int .u32 0) 4 Try.underlying175 Try.infoU32 rfl (by decide) m (by omega) .i64 .i64 m rfl W
  clear hI
  have HM := Lib.hid hm
  clear hm
  go_enter Try.func104, Try.ntmps104
  go_wp2_with fail
  go_ret
  exact ⟨rfl, rfl⟩

theorem BA.made (w : World) (m n : Nat) : BA ((w.alloc (.cells (zeros m (.int .u32 0)) 179)).alloc (.cells #[.slice (some ⟨w.heap.size, 0, none⟩) m m, .int .i64 n] 178)) (w.heap.size + 1) w.heap.size (List.replicate m 0) n := by
  refine ⟨?_, ?_, by omega, ?_⟩
  · rw [List.length_replicate]
    have := heap_alloc_new (w.alloc (.cells (zeros m (.int .u32 0)) 179)) (.cells #[.slice (some ⟨w.heap.size, 0, none⟩) m m, .int .i64 n] 178)
    simpa using this
  · rw [Below.heap_alloc _ _ _ (by simp), heap_alloc_new]
    simp [zeros]
  · intro x hx
    rw [(List.mem_replicate.1 hx).2]; omega

set_option maxRecDepth 100000 in
set_option maxHeartbeats 800000 in
theorem ba_new (I : Int) (n : Nat) (hI : I = n) (hn : n < 1000000000) (w : World) :
    Calls Try.prog 72 #[.int .i64 I] w fun e w' => ∃ p g, e = .returned (.pointer (some ⟨p, 0, none⟩)) ∧ BA w' p g (List.replicate ((n + 31) / 32) 0) n ∧ Below w.heap.size w w' ∧ w.heap.size ≤ p ∧ w.heap.size ≤ g := by
  subst hI
  go_enter Try.func72, Try.ntmps72
  go_wp2_with fail
  refine (make_words _ n _ rfl hn rfl _).mono ?_
  rintro e w' ⟨rfl, rfl⟩
  go_wp2_with fail
  go_ret
  exact ⟨_, _, rfl, BA.made w _ n, ((Below.refl _ _).alloc (Nat.le_refl _) _).alloc (by simp) _, Nat.le_succ _, Nat.le_refl _⟩

theorem ba_size (p g n : Nat) (ws : List Nat) (w : World) (h : BA w p g ws n) :
    Calls Try.prog 92 #[.pointer (some ⟨p, 0, none⟩)] w fun e w' => e = .returned (.int .i64 n) ∧ w = w' := by
  have h1 := h.size
  go_enter Try.func92, Try.ntmps92
  go_wp2_with fail
  go_ret
  exact ⟨rfl, rfl⟩

theorem bit_zeros (m i : Nat) : bit (List.replicate m 0) i = false := by
  unfold bit nth
  rw [List.getD_eq_getElem?_getD, List.getElem?_replicate]
  split <;> simp
theorem bit_set (ws : List Nat) (i j : Nat) (hi : i / 32 < ws.length) : bit (ws.set (i / 32) (nth ws (i / 32) ||| 2 ^ (i % 32))) j = (bit ws j || decide (j = i)) := by
  unfold bit
  by_cases hq : j / 32 = i / 32
  · rw [hq]
    have e : nth (ws.set (i / 32) (nth ws (i / 32) ||| 2 ^ (i % 32))) (i / 32) = nth ws (i / 32) ||| 2 ^ (i % 32) := by
      conv => lhs; unfold nth
      rw [List.getD_eq_getElem?_getD, List.getElem?_set_self hi]; rfl
    rw [e, Nat.testBit_or, Nat.testBit_two_pow]
    congr 1
    rw [Bool.eq_iff_iff]; simp; omega
  · have e : nth (ws.set (i / 32) (nth ws (i / 32) ||| 2 ^ (i % 32))) (j / 32) = nth ws (j / 32) := by
      unfold nth
      rw [List.getD_eq_getElem?_getD, List.getElem?_set_ne (by omega), List.getD_eq_getElem?_getD]
    rw [e]
    have : j ≠ i := by intro h; exact hq (by rw [h])
    simp [this]

set_option maxRecDepth 100000 in
set_option maxHeartbeats 800000 in
theorem ba_array (A : Option Addr) (n c : Nat) (z : Nat → Bool) (w : World) (hn : n < 1000000000) (h : Rd w A n (fun j => .bool (z j))) :
    Calls Try.prog 33 #[.slice A n c] w fun e w' => ∃ p g ws, e = .returned (.pointer (some ⟨p, 0, none⟩)) ∧ BA w' p g ws n ∧ ws.length = (n + 31) / 32 ∧ (∀ i, bit ws i = (decide (i < n) && z i)) ∧ Below w.heap.size w w' ∧ w.heap.size ≤ p ∧ w.heap.size ≤ g := by
  go_enter Try.func33, Try.ntmps33
  go_wp2_with fail
  refine (ba_new _ n rfl hn _).mono ?_
  rintro e w1 ⟨p, g, rfl, hba, hbel, hp, hg⟩
  go_wp2_with fail
  go_loopw [11] (fun i wr => ∃ (k : Nat) (ws : List Nat), k ≤ n ∧ i = .int .i64 k ∧ BA wr p g ws n ∧ ws.length = (n + 31) / 32 ∧ (∀ i, bit ws i = (decide (i < k) && z i)) ∧ Below w.heap.size w wr) (fun i _ => n - (intOf i).toNat)
  case atStart => exact ⟨0, _, by omega, rfl, hba, by simp, fun i => by simp [bit_zeros], hbel⟩
  case round =>
    obtain ⟨k, ws, hk, rfl, hb, hl, hbit, hbl⟩ := hrel
    clear hba hbel
    by_cases hlt : k < n
    · obtain ⟨b, off, rfl, _, hc⟩ := (h.below hbl) (by omega)
      have hck := hc k hlt; dsimp only at hck
      have HL := Lib.hid hl
      have HB := Lib.hid hbit
      have HH := Lib.hid h
      clear hc hl hbit h
      cases hz : z k
      · rw [hz] at hck
        go_wp2_with fail
        go_roundw
        case rel => exact ⟨k + 1, ws, by omega, by go_num, hb, HL.out, fun i => by rw [HB.out i]; by_cases hik : i = k; (subst hik; simp [hz]); (congr 1; simp; omega), hbl⟩
        case measure => simp [intOf]; omega
      · rw [hz] at hck
        go_wp2_with fail
        refine (ba_set _ k rfl p g n ws _ hb (by have := HL.out; omega) (by omega)).mono ?_
        rintro e w' ⟨rfl, rfl⟩
        have hq : k / 32 < ws.length := by have := HL.out; omega
        have hx := hb.lt _ (nth_mem hq)
        have h2p : 2 ^ (k % 32) < 2 ^ 32 := Nat.pow_lt_pow_right (by decide) (by omega)
        have hb2 := hb.set_ (k / 32) (nth ws (k / 32) ||| 2 ^ (k % 32)) (by have := Nat.or_lt_two_pow (n := 32) (show nth ws (k / 32) < 2 ^ 32 by omega) h2p; omega)
        have hbs := fun j => bit_set ws k j hq
        clear hb
        have hbl2 := hbl.setCell (p := ⟨g, k / 32, none⟩) hg (.int .u32 ((nth ws (k / 32) ||| 2 ^ (k % 32) : Nat) : Int))
        have hl2 : (ws.set (k / 32) (nth ws (k / 32) ||| 2 ^ (k % 32))).length = (n + 31) / 32 := by rw [List.length_set]; exact HL.out
        generalize (wr.setCell ⟨g, k / 32, none⟩ (.int .u32 ((nth ws (k / 32) ||| 2 ^ (k % 32) : Nat) : Int))) = w9 at *
        generalize ws.set (k / 32) (nth ws (k / 32) ||| 2 ^ (k % 32)) = ws2 at *
        have HL2 := Lib.hid hl2
        have HBS := Lib.hid hbs
        clear hl2 hbs h2p hx hq
        go_wp2_with fail
        go_roundw
        case rel => exact ⟨k + 1, ws2, by omega, by go_num, hb2, HL2.out, fun i => by rw [HBS.out i, HB.out i]; by_cases hik : i = k; (subst hik; simp [hz]); (simp [hik]; rw [Bool.eq_iff_iff]; simp; omega), hbl2⟩
        case measure => simp [intOf]; omega
    · obtain rfl : k = n := by omega
      have HB := Lib.hid hbit
      clear hbit
      go_wp2_with fail
      go_ret
      exact ⟨p, g, ws, rfl, hb, hl, HB.out, hbl, hp, hg⟩
end Go.Proofs.Ythkiajighmhdoaa
