/-
  Several texts of this claim in one. No condition beyond the bounds that each theorem states.
-/
import Derived.Test.YtiielblnmfeapaaGreatDoorRows
import Derived.Test.YtiielblnmfeapaaGreatDoorBase
import Derived.WideLaws
import Derived.Deep.DeepCutAuto
import Derived.Deep.RegionLaw
import Derived.BigRegion
import Derived.Deep.QuietTactic
import Derived.BigQuiet
namespace Go.Qz.RS
set_option linter.unusedVariables false

/-- Without zeros ahead. -/
def tidy : List Nat → List Nat
  | [] => []
  | [a] => [a]
  | a :: b :: t => if a = 0 then tidy (b :: t) else a :: b :: t
theorem tidy_ne : ∀ l : List Nat, l ≠ [] → tidy l ≠ []
  | [], h => h
  | [a], _ => by simp [tidy]
  | a :: b :: t, _ => by
    unfold tidy
    split
    · exact tidy_ne (b :: t) (by simp)
    · simp
theorem tidy_length : ∀ l : List Nat, (tidy l).length ≤ l.length
  | [] => Nat.le_refl _
  | [x] => Nat.le_refl _
  | 0 :: y :: r => by
    have := tidy_length (y :: r)
    simp [tidy] at *; omega
  | (x + 1) :: y :: r => by simp [tidy]
theorem tidy_drop : ∀ (l : List Nat) (k : Nat), k < l.length → (∀ j, j < k → l.getD j 0 = 0) → (k + 1 = l.length ∨ l.getD k 0 ≠ 0) → tidy l = l.drop k
  | [], _, h, _, _ => by simp at h
  | [a], 0, _, _, _ => rfl
  | [a], k + 1, h, _, _ => by simp at h
  | a :: b :: t, 0, _, _, h => by
    unfold tidy
    rcases h with h | h
    · simp at h
    · simp at h; simp [h]
  | a :: b :: t, k + 1, hk, hz, h => by
    have h0 := hz 0 (by omega)
    simp at h0
    unfold tidy
    rw [if_pos h0, List.drop_succ_cons]
    refine tidy_drop (b :: t) k (by simpa using hk) (fun j hj => ?_) ?_
    · have := hz (j + 1) (by omega); simpa using this
    · rcases h with h | h
      · left; simpa using h
      · right; simpa using h

/-- A field: its primitive polynomial's bits, its size, the base of generators. -/
structure Fld where
  prim : Nat
  size : Nat
  base : Nat
/-- Twice an element. -/
def step (F : Fld) (x : Nat) : Nat := if F.size ≤ 2 * x then (2 * x ^^^ F.prim) &&& (F.size - 1) else 2 * x
/-- The powers of 2. -/
def ex (F : Fld) : Nat → Nat
  | 0 => 1
  | i + 1 => step F (ex F i)
theorem step_lt (F : Fld) (x : Nat) (h : 1 < F.size) : step F x < F.size := by
  unfold step
  split
  · have := Nat.and_le_right (n := 2 * x ^^^ F.prim) (m := F.size - 1); omega
  · omega
theorem ex_lt (F : Fld) (h : 1 < F.size) : ∀ i, ex F i < F.size
  | 0 => h
  | i + 1 => step_lt F _ h
/-- The table of powers, so far. -/
def pre (F : Fld) (k : Nat) : List Nat := (List.range F.size).map fun j => if j < k then ex F j else 0
theorem pre_set (F : Fld) (k : Nat) : (pre F k).set k (ex F k) = pre F (k + 1) := by
  apply List.ext_getElem?
  intro i
  rw [List.getElem?_set]
  unfold pre
  by_cases h : i = k
  · subst h
    by_cases hl : i < F.size <;> simp [hl]
  · rw [if_neg (fun e => h e.symm)]
    by_cases hl : i < F.size
    · simp only [List.getElem?_map, List.getElem?_range hl, Option.map_some]
      by_cases hk : i < k
      · simp [hk, show i < k + 1 by omega]
      · simp [hk, show ¬ i < k + 1 by omega]
    · rw [List.getElem?_eq_none (by simpa using hl), List.getElem?_eq_none (by simpa using hl)]
theorem pre_zero (F : Fld) : pre F 0 = List.replicate F.size 0 := by
  unfold pre
  apply List.ext_getElem?
  intro i
  by_cases hl : i < F.size
  · simp [hl]
  · rw [List.getElem?_eq_none (by simpa using hl), List.getElem?_eq_none (by simpa using hl)]
/-- The table of logarithms, so far. -/
def logs (F : Fld) : Nat → List Nat
  | 0 => List.replicate F.size 0
  | k + 1 => (logs F k).set (ex F k) k
theorem logs_length (F : Fld) : ∀ k, (logs F k).length = F.size
  | 0 => by simp [logs]
  | k + 1 => by simp [logs, logs_length F k]
/-- The logarithm that the table says. -/
def lg (F : Fld) (a : Nat) : Nat := (logs F (F.size - 1)).getD a 0
/-- The six fields of the symbols. -/
def six : Nat → Fld
  | 0 => ⟨19, 16, 1⟩
  | 1 => ⟨67, 64, 1⟩
  | 2 => ⟨301, 256, 1⟩
  | 3 => ⟨285, 256, 0⟩
  | 4 => ⟨1033, 1024, 1⟩
  | _ => ⟨4201, 4096, 1⟩
def Six (F : Fld) : Prop := ∃ k, k < 6 ∧ F = six k
theorem Six.bounds {F : Fld} (h : Six F) : 4 ≤ F.size ∧ F.size ≤ 4096 ∧ F.prim < 8192 ∧ F.base < 2 := by
  obtain ⟨k, hk, rfl⟩ := h
  rcases k with _ | _ | _ | _ | _ | _ | k <;> simp [six] at *
end Go.Qz.RS
namespace Go.Proofs.YtiielblnmfeapaaGreatDoor
open Go.RowKit Go.Qz Go.Qz.RS
set_option linter.unusedVariables false

/-- Block p is a polynomial of the field f; its own block and that of its coefficients satisfy Q. -/
structure PolyQ (w : World) (Q : Nat → Prop) (p f : Nat) (cs : List Nat) : Prop where
  ex : ∃ cb off cap, w.heap[p]? = some (.cells #[.pointer (some ⟨f, 0, none⟩), .slice (some ⟨cb, off, none⟩) cs.length cap] 175 (0, 0)) ∧ Q cb ∧ cb < w.heap.size ∧ cs.length ≤ cap ∧
    ∀ j, j < cs.length → w.cell? ⟨cb, off + j, none⟩ = some (.int .i64 (nth cs j : Nat))
  q : Q p
  ne : cs ≠ []
theorem PolyQ.mod {S : Nat → Prop} {w w' : World} {Q : Nat → Prop} {p f : Nat} {cs : List Nat} (h : PolyQ w Q p f cs) (hm : Mod S w w') (hq : ∀ k, Q k → ¬ S k) : PolyQ w' Q p f cs := by
  obtain ⟨⟨cb, off, cap, h1, h2, h3, h4, h5⟩, hp, hne⟩ := h
  refine ⟨⟨cb, off, cap, ?_, h2, Nat.lt_of_lt_of_le h3 hm.size, h4, fun j hj => ?_⟩, hp, hne⟩
  · rw [hm.block p (Array.getElem?_eq_some_iff.1 h1).1 (hq p hp)]; exact h1
  · rw [← h5 j hj]; exact World.cell?_of_block (w := w) (hm.block cb h3 (hq cb h2))
theorem PolyQ.below {w w' : World} {Q : Nat → Prop} {p f : Nat} {cs : List Nat} (h : PolyQ w Q p f cs) (hb : Below w.heap.size w w') : PolyQ w' Q p f cs := h.mod (Mod.of_below (S := fun _ => False) hb) (fun _ _ h => h)
theorem PolyQ.imp {w : World} {Q Q' : Nat → Prop} {p f : Nat} {cs : List Nat} (h : PolyQ w Q p f cs) (hq : ∀ k, Q k → Q' k) : PolyQ w Q' p f cs := by
  obtain ⟨⟨cb, off, cap, h1, h2, h3, h4, h5⟩, hp, hne⟩ := h
  exact ⟨⟨cb, off, cap, h1, hq _ h2, h3, h4, h5⟩, hq _ hp, hne⟩
theorem PolyQ.lt {w : World} {Q : Nat → Prop} {p f : Nat} {cs : List Nat} (h : PolyQ w Q p f cs) : p < w.heap.size := by
  obtain ⟨⟨cb, off, cap, h1, _⟩, _⟩ := h
  exact (Array.getElem?_eq_some_iff.1 h1).1

theorem PolyQ.made {w : World} {Q : Nat → Prop} {f cb off n cap : Nat} {cs : List Nat} (hQ : ∀ k, w.heap.size ≤ k → Q k) (hn : n = cs.length) (hq : Q cb) (hlt : cb < w.heap.size) (hc : n ≤ cap) (hne : cs ≠ [])
    (h : ∀ j, j < cs.length → w.cell? ⟨cb, off + j, none⟩ = some (.int .i64 (nth cs j : Nat))) :
    PolyQ (w.alloc (.cells #[.pointer (some ⟨f, 0, none⟩), .slice (some ⟨cb, off, none⟩) n cap] 175)) Q w.heap.size f cs := by
  subst hn
  exact ⟨⟨cb, off, cap, heap_alloc_new w _, hq, by simp; omega, hc, fun j hj => (World.cell?_alloc_past _ _ _ hlt).trans (h j hj)⟩, hQ _ (Nat.le_refl _), hne⟩

/-- A slice whose block satisfies Q. -/
def SlQ (w : World) (Q : Nat → Prop) (A : Option Addr) (l : List Nat) (c : Nat) : Prop :=
  l.length ≤ c ∧ (0 < l.length → ∃ b off, A = some ⟨b, off, none⟩ ∧ Q b ∧ b < w.heap.size ∧ ∀ j, j < l.length → w.cell? ⟨b, off + j, none⟩ = some (.int .i64 (nth l j : Nat)))
theorem SlQ.mod {S : Nat → Prop} {w w' : World} {Q : Nat → Prop} {A : Option Addr} {l : List Nat} {c : Nat} (h : SlQ w Q A l c) (hm : Mod S w w') (hq : ∀ k, Q k → ¬ S k) : SlQ w' Q A l c := by
  refine ⟨h.1, fun h0 => ?_⟩
  obtain ⟨b, off, e, hb, hlt, hc⟩ := h.2 h0
  refine ⟨b, off, e, hb, Nat.lt_of_lt_of_le hlt hm.size, fun j hj => ?_⟩
  rw [← hc j hj]; exact World.cell?_of_block (w := w) (hm.block b hlt (hq b hb))
theorem SlQ.below {w w' : World} {Q : Nat → Prop} {A : Option Addr} {l : List Nat} {c : Nat} (h : SlQ w Q A l c) (hb : Below w.heap.size w w') : SlQ w' Q A l c := h.mod (Mod.of_below (S := fun _ => False) hb) (fun _ _ h => h)
theorem SlQ.rd {w : World} {Q : Nat → Prop} {A : Option Addr} {l : List Nat} {c : Nat} (h : SlQ w Q A l c) : Rd w A l.length (fun j => .int .i64 (nth l j : Nat)) := fun h0 => by
  obtain ⟨b, off, e, _, hlt, hc⟩ := h.2 h0
  exact ⟨b, off, e, hlt, hc⟩

theorem SlQ.lit {w : World} {Q : Nat → Prop} (x b : Nat) (hb : b = w.heap.size) (hq : Q b) : SlQ (w.alloc (.cells #[.int .i64 (x : Nat)] 3)) Q (some ⟨b, 0, none⟩) [x] 1 := by
  subst hb
  refine ⟨Nat.le_refl _, fun _ => ⟨_, 0, rfl, hq, by simp, fun j hj => ?_⟩⟩
  obtain rfl : j = 0 := by simpa using hj
  rw [World.cell?_alloc_at _ _ _ _ (by simp)]
  rfl

/-- An error that errors.New made. -/
def IsErr (v : Value) : Prop := ∃ b : Nat, v = .iface 169 (.pointer (some ⟨b, 0, none⟩))
set_option maxRecDepth 100000 in
theorem err_new (s : ByteArray) (w : World) :
    Calls Tryz.prog 82 #[.string s] w fun e w' => ∃ v, e = .returned v ∧ IsErr v ∧ Below w.heap.size w w' := by
  go_enter Tryz.func82, Tryz.ntmps82
  go_wp2_with fail
  go_ret
  exact ⟨_, rfl, ⟨_, rfl⟩, (Below.refl _ _).alloc (Nat.le_refl _) _⟩
theorem errIface : Tryz.prog.underlying 44 = some (.interface (Tryz.prog.methodsAt 44)) := by kernel_rfl

set_option maxRecDepth 100000 in
set_option maxHeartbeats 1600000 in
theorem poly_none (f : Nat) (A : Option Addr) (c : Nat) (w : World) :
    Calls Tryz.prog 86 #[.pointer (some ⟨f, 0, none⟩), .slice A 0 c] w fun e w' => ∃ v, e = .returned (.tuple #[.pointer none, v]) ∧ IsErr v ∧ Below w.heap.size w w' := by
  go_enter Tryz.func86, Tryz.ntmps86
  go_wp2_with fail
  refine (err_new _ _).mono ?_
  rintro e w' ⟨v, rfl, hv, hb⟩
  go_wp2_with fail
  go_ret2
  exact ⟨_, rfl, hv, hb⟩

set_option maxRecDepth 100000 in
set_option maxHeartbeats 1600000 in
theorem poly_new (Q : Nat → Prop) (f : Nat) (A : Option Addr) (l : List Nat) (c : Nat) (w : World) (hQ : ∀ k, w.heap.size ≤ k → Q k) (hl : l ≠ []) (hn : l.length < 1000000000) (h : SlQ w Q A l c) :
    Calls Tryz.prog 86 #[.pointer (some ⟨f, 0, none⟩), .slice A l.length c] w fun e w' => ∃ p, e = .returned (.tuple #[.pointer (some ⟨p, 0, none⟩), .nilIface]) ∧ PolyQ w' Q p f (tidy l) ∧ Below w.heap.size w w' ∧ w.heap.size ≤ p := by
  have hpos : 0 < l.length := List.length_pos_iff.2 hl
  obtain ⟨b, off, rfl, hqb, hlt, hc⟩ := h.2 hpos
  have hlc := h.1
  have hz0 : ((l.length : Int) == 0) = false := by simpa using (by omega : (l.length : Int) ≠ 0)
  have hc0 := hc 0 hpos
  clear h
  by_cases hd : l.length = 1 ∨ nth l 0 ≠ 0
  · have ht : tidy l = l := by rw [tidy_drop l 0 hpos (fun j hj => by omega) (by rcases hd with h | h; exact .inl (by omega); exact .inr h)]; rfl
    rw [ht]
    by_cases h1 : l.length = 1
    · have hg : (decide ((1 : Int) < (l.length : Int))) = false := by simp; omega
      have hg2 : ¬ ((1 : Int) < (l.length : Int)) := by omega
      have H1 := Lib.hid h1
      have HC := Lib.hid hc
      clear h1 hd hc hc0
      go_enter Tryz.func86, Tryz.ntmps86
      go_wp2_with fail
      go_ret2
      exact ⟨_, rfl, PolyQ.made hQ rfl hqb hlt hlc hl HC.out, (Below.refl _ _).alloc (Nat.le_refl _) _, Nat.le_refl _⟩
    · have h2 : nth l 0 ≠ 0 := by rcases hd with h | h; exact absurd h h1; exact h
      have hg2 : (1 : Int) < (l.length : Int) := by omega
      have hg3 : (((nth l 0 : Nat) : Int) == 0) = false := by simpa using (by omega : ((nth l 0 : Nat) : Int) ≠ 0)
      have hc1 : (w.alloc (.cells #[.pointer (some ⟨f, 0, none⟩), .slice none 0 0] 175)).cell? ⟨b, off, none⟩ = some (.int .i64 (nth l 0 : Nat)) := (World.cell?_alloc_past _ _ _ hlt).trans hc0
      have HC := Lib.hid hc
      clear h1 hd hc h2
      go_enter Tryz.func86, Tryz.ntmps86
      go_wp2_with fail
      go_ret2
      exact ⟨_, rfl, PolyQ.made hQ rfl hqb hlt hlc hl HC.out, (Below.refl _ _).alloc (Nat.le_refl _) _, Nat.le_refl _⟩
  · have h1 : 1 < l.length := by omega
    have h2 : nth l 0 = 0 := by omega
    rw [h2] at hc0
    have hc1 : (w.alloc (.cells #[.pointer (some ⟨f, 0, none⟩), .slice none 0 0] 175)).cell? ⟨b, off, none⟩ = some (.int .i64 (0 : Nat)) := (World.cell?_alloc_past _ _ _ hlt).trans hc0
    have hcc : ∀ j, j < l.length → (w.alloc (.cells #[.pointer (some ⟨f, 0, none⟩), .slice none 0 0] 175)).cell? ⟨b, off + j, none⟩ = some (.int .i64 (nth l j : Nat)) := fun j hj => (World.cell?_alloc_past _ _ _ hlt).trans (hc j hj)
    have HC := Lib.hid hc
    have HCC := Lib.hid hcc
    have H2 := Lib.hid h2
    clear hc hcc h2 hd
    go_enter Tryz.func86, Tryz.ntmps86
    go_wp2_with fail
    go_loop [8] (fun i => ∃ k : Nat, 1 ≤ k ∧ k ≤ l.length ∧ i = .int .i64 k ∧ Hid (∀ j, j < k → nth l j = 0)) (fun i => l.length - (intOf i).toNat)
    case atStart => exact ⟨1, by omega, by omega, rfl, Lib.hid (fun j hj => by rw [show j = 0 by omega]; exact H2.out)⟩
    case round =>
      obtain ⟨k, hk1, hk2, rfl, hall⟩ := hrel
      by_cases hlt2 : k < l.length
      · have hck := HCC.out k hlt2
        by_cases hz : nth l k = 0
        · rw [hz] at hck
          have HZ := Lib.hid hz
          clear hz
          go_wp2_with fail
          go_round
          case rel => exact ⟨k + 1, by omega, by omega, by go_num, Lib.hid (fun j hj => by
            by_cases h : j = k
            · rw [h]; exact HZ.out
            · exact hall.out j (by omega))⟩
          case measure => simp [intOf]; omega
        · have hg3 : (((nth l k : Nat) : Int) == 0) = false := by simpa using (by omega : ((nth l k : Nat) : Int) ≠ 0)
          have hg4 : ((k : Int) == (l.length : Int)) = false := by simpa using (by omega : (k : Int) ≠ (l.length : Int))
          have ht : tidy l = l.drop k := tidy_drop l k hlt2 (fun j hj => by have := hall.out j hj; exact this) (.inr hz)
          have HT := Lib.hid ht
          clear hz ht
          go_wp2_with fail
          go_ret2
          have hd : nth (l.drop k) = fun j => nth l (k + j) := by
            funext j; unfold nth; rw [List.getD_eq_getElem?_getD, List.getElem?_drop, List.getD_eq_getElem?_getD]
          refine ⟨_, rfl, ?_, (Below.refl _ _).alloc (Nat.le_refl _) _, Nat.le_refl _⟩
          rw [HT.out]
          refine PolyQ.made hQ (by simp) hqb hlt (by omega) (by simp; omega) (fun j hj => ?_)
          rw [hd, Nat.add_assoc]
          exact HC.out (k + j) (by simp at hj; omega)
      · obtain rfl : k = l.length := by omega
        have hg4 : ((l.length : Int) == (l.length : Int)) = true := by simp
        have hall2 := hall.out
        have ht : tidy l = [0] := by
          rw [tidy_drop l (l.length - 1) (by omega) (fun j hj => hall2 j (by omega)) (.inl (by omega))]
          rw [drop_nth (by omega), hall2 _ (by omega), show l.length - 1 + 1 = l.length by omega, List.drop_length]
        have HT := Lib.hid ht
        clear ht hall2
        go_wp2_with fail
        go_ret2
        refine ⟨_, rfl, ?_, ((Below.refl _ _).alloc (Nat.le_refl _) _).alloc (by simp) _, Nat.le_refl _⟩
        rw [HT.out]
        refine ⟨⟨w.heap.size + 1, 0, 1, ?_, hQ _ (by omega), by simp, by simp, fun j hj => ?_⟩, hQ _ (Nat.le_refl _), by simp⟩
        · rw [Below.heap_alloc _ _ _ (by simp), heap_alloc_new]; rfl
        · obtain rfl : j = 0 := by simpa using hj
          rw [World.cell?_alloc_at _ _ _ _ (by simp)]
          rfl

/-- Block f is a field; all its blocks satisfy Q. -/
structure GFQ (w : World) (Q : Nat → Prop) (f : Nat) (F : Fld) : Prop where
  ex : ∃ eb lb z o, w.heap[f]? = some (.cells #[.slice (some ⟨eb, 0, none⟩) F.size F.size, .slice (some ⟨lb, 0, none⟩) F.size F.size, .pointer (some ⟨z, 0, none⟩), .pointer (some ⟨o, 0, none⟩), .int .i64 F.size, .int .i64 F.prim, .int .i64 F.base] 173 (0, 0)) ∧
    IA w 3 eb (pre F F.size) ∧ Q eb ∧ IA w 3 lb (logs F (F.size - 1)) ∧ Q lb ∧ PolyQ w Q z f [0] ∧ PolyQ w Q o f [1]
  q : Q f
theorem GFQ.mod {S : Nat → Prop} {w w' : World} {Q : Nat → Prop} {f : Nat} {F : Fld} (h : GFQ w Q f F) (hm : Mod S w w') (hq : ∀ k, Q k → ¬ S k) : GFQ w' Q f F := by
  obtain ⟨⟨eb, lb, z, o, h1, h2, h3, h4, h5, h6, h7⟩, h8⟩ := h
  exact ⟨⟨eb, lb, z, o, (hm.block f (Array.getElem?_eq_some_iff.1 h1).1 (hq f h8)).trans h1, h2.mod hm (hq _ h3), h3, h4.mod hm (hq _ h5), h5, h6.mod hm hq, h7.mod hm hq⟩, h8⟩
theorem GFQ.below {w w' : World} {Q : Nat → Prop} {f : Nat} {F : Fld} (h : GFQ w Q f F) (hb : Below w.heap.size w w') : GFQ w' Q f F := h.mod (Mod.of_below (S := fun _ => False) hb) (fun _ _ h => h)

theorem Tryz.infoInt : (Tryz.prog.info? 3).map (fun i => (i.zero, i.size, i.bytes)) = some (some (.int .i64 0), 1, 8) := by kernel_rfl

set_option maxRecDepth 100000 in
set_option maxHeartbeats 3200000 in
theorem gf_new (Q : Nat → Prop) (F : Fld) (P S B : Int) (hP : P = F.prim) (hS : S = F.size) (hB : B = F.base) (h1 : 4 ≤ F.size) (h2 : F.size ≤ 4096) (h3 : F.prim < 8192) (h4 : F.base < 2) (w : World) (hQ : ∀ k, w.heap.size ≤ k → Q k) :
    Calls Tryz.prog 83 #[.int .i64 P, .int .i64 S, .int .i64 B] w fun e w' => ∃ f, e = .returned (.pointer (some ⟨f, 0, none⟩)) ∧ GFQ w' Q f F ∧ Below w.heap.size w w' ∧ w.heap.size ≤ f := by
  subst hP hS hB
  have hmk := fun W => run_make1 (P := Tryz.prog) 24 3 (.int .i64 0) 8 Tryz.underlying24 Tryz.infoInt rfl (by decide) F.size (by omega) .i64 .i64 F.size rfl W
  go_enter Tryz.func83, Tryz.ntmps83
  go_wp2_with fail
  have hA : Arr (((w.alloc (.cells #[.slice none 0 0, .slice none 0 0, .pointer none, .pointer none, .int .i64 F.size, .int .i64 F.prim, .int .i64 F.base] 173)).alloc (.cells (zeros F.size (.int .i64 0)) 3)).alloc (.cells (zeros F.size (.int .i64 0)) 3)) 173 w.heap.size [.slice none 0 0, .slice none 0 0, .pointer none, .pointer none, .int .i64 F.size, .int .i64 F.prim, .int .i64 F.base] := by
    unfold Arr
    rw [Below.heap_alloc _ _ _ (by simp; omega), Below.heap_alloc _ _ _ (by simp), heap_alloc_new]
  have hE := (IA.zeros (w.alloc (.cells #[.slice none 0 0, .slice none 0 0, .pointer none, .pointer none, .int .i64 F.size, .int .i64 F.prim, .int .i64 F.base] 173)) 3 F.size).mod (S := fun _ => False) ((Mod.refl _).alloc (.cells (zeros F.size (.int .i64 0)) 3)) (fun h => h)
  have hL := IA.zeros ((w.alloc (.cells #[.slice none 0 0, .slice none 0 0, .pointer none, .pointer none, .int .i64 F.size, .int .i64 F.prim, .int .i64 F.base] 173)).alloc (.cells (zeros F.size (.int .i64 0)) 3)) 3 F.size
  have hBl : Below w.heap.size w (((w.alloc (.cells #[.slice none 0 0, .slice none 0 0, .pointer none, .pointer none, .int .i64 F.size, .int .i64 F.prim, .int .i64 F.base] 173)).alloc (.cells (zeros F.size (.int .i64 0)) 3)).alloc (.cells (zeros F.size (.int .i64 0)) 3)) :=
    (((Below.refl _ _).alloc (Nat.le_refl _) _).alloc (by simp) _).alloc (by simp; omega) _
  simp only [World.size_alloc] at hE hL
  rw [← pre_zero] at hE
  generalize (((w.alloc (.cells #[.slice none 0 0, .slice none 0 0, .pointer none, .pointer none, .int .i64 F.size, .int .i64 F.prim, .int .i64 F.base] 173)).alloc (.cells (zeros F.size (.int .i64 0)) 3)).alloc (.cells (zeros F.size (.int .i64 0)) 3)) = W3 at *
  obtain ⟨H, hH⟩ : ∃ H, H = w.heap.size := ⟨_, rfl⟩
  rw [← hH] at hA hE hL hBl hQ ⊢
  have HH := Lib.hid hH
  clear hH
  go_loopw [10, 11] (fun x i wr => ∃ k : Nat, k ≤ F.size ∧ i = .int .i64 k ∧ x = .int .i64 (ex F k : Nat) ∧ IA wr 3 (H + 1) (pre F k) ∧ Arr wr 173 H [.slice none 0 0, .slice none 0 0, .pointer none, .pointer none, .int .i64 F.size, .int .i64 F.prim, .int .i64 F.base] ∧ IA wr 3 (H + 1 + 1) (List.replicate F.size 0) ∧ Below H w wr) (fun _ i _ => F.size - (intOf i).toNat)
  case atStart => exact ⟨0, by omega, rfl, rfl, hE, hA, hL, hBl⟩
  case round =>
    obtain ⟨k, hk, rfl, rfl, hE2, hA2, hL2, hB2⟩ := hrel
    clear hA hE hL hBl
    by_cases hlt : k < F.size
    · have hpl : (pre F k).length = F.size := by simp [pre]
      have hc := hE2.cell (j := k) (by omega)
      have hf := hE2.free k
      have HS := hE2.set_ k (ex F k)
      rw [pre_set] at HS
      have hm := Mod.set1 wr (H + 1) k (.int .i64 (ex F k : Nat))
      have HA := Lib.hid (hA2.mod hm (by omega))
      have HL := Lib.hid (hL2.mod hm (by omega))
      have HB := Lib.hid (hB2.setCell (p := ⟨H + 1, k, none⟩) (by dsimp only; omega) (.int .i64 (ex F k : Nat)))
      have HS := Lib.hid HS
      have hx := ex_lt F (by omega) k
      have hst : Hid (ex F (k + 1) = if F.size ≤ 2 * ex F k then (2 * ex F k ^^^ F.prim) &&& (F.size - 1) else 2 * ex F k) := Lib.hid rfl
      clear hE2 hA2 hL2 hB2 hm hpl
      generalize ex F k = x at *
      by_cases hge : F.size ≤ 2 * x
      · have hxl : 2 * x ^^^ F.prim < 2 ^ 13 := Nat.xor_lt_two_pow (by omega) (by omega)
        have hxor : bits .xor .i64 ((x : Int) * 2) (F.prim : Int) = ((2 * x ^^^ F.prim : Nat) : Int) := by
          rw [← i64_xor (2 * x) F.prim (by omega) (by omega)]
          congr 1; omega
        have hand : bits .and .i64 (((2 * x ^^^ F.prim : Nat)) : Int) ((F.size : Int) - 1) = (((2 * x ^^^ F.prim) &&& (F.size - 1) : Nat) : Int) := by
          rw [← i64_and (2 * x ^^^ F.prim) (F.size - 1) (by omega) (by omega)]
          congr 1; omega
        have hx2 : Hid (ex F (k + 1) = (2 * x ^^^ F.prim) &&& (F.size - 1)) := Lib.hid (by rw [hst.out, if_pos hge])
        have hge2 : (F.size : Int) ≤ (x : Int) * 2 := by omega
        clear hst hge
        generalize (2 * x ^^^ F.prim) &&& (F.size - 1) = y at *
        generalize 2 * x ^^^ F.prim = z at *
        go_wp2_with fail
        go_roundw
        case rel => exact ⟨k + 1, by omega, by go_num, by rw [hx2.out], HS.out, HA.out, HL.out, HB.out⟩
        case measure => simp [intOf]; omega
      · have hx2 : Hid (ex F (k + 1) = 2 * x) := Lib.hid (by rw [hst.out, if_neg hge])
        have hge2 : (x : Int) * 2 < F.size := by omega
        clear hst hge
        go_wp2_with fail
        go_roundw
        case rel => exact ⟨k + 1, by omega, by go_num, by rw [hx2.out]; congr 1; omega, HS.out, HA.out, HL.out, HB.out⟩
        case measure => simp [intOf]; omega
    · obtain rfl : k = F.size := by omega
      clear hlt
      go_wp2_with fail
      obtain ⟨W4, hW4⟩ : ∃ W4, W4 = wr := ⟨_, rfl⟩
      rw [← hW4] at hE2 hA2 hL2 hB2 ⊢
      clear hW4
      go_loopw [12] (fun i wr => ∃ k : Nat, k ≤ F.size - 1 ∧ i = .int .i64 k ∧ IA wr 3 (H + 1) (pre F F.size) ∧ Arr wr 173 H [.slice none 0 0, .slice none 0 0, .pointer none, .pointer none, .int .i64 F.size, .int .i64 F.prim, .int .i64 F.base] ∧ IA wr 3 (H + 1 + 1) (logs F k) ∧ Below H w wr) (fun i _ => F.size - (intOf i).toNat)
      case atStart => exact ⟨0, by omega, rfl, hE2, hA2, hL2, hB2⟩
      case round =>
        obtain ⟨k, hk, rfl, hE3, hA3, hL3, hB3⟩ := hrel
        clear hE2 hA2 hL2 hB2
        by_cases hlt : k < F.size - 1
        · have hpl : (pre F F.size).length = F.size := by simp [pre]
          have hc := hE3.cell (j := k) (by omega)
          have hnk : nth (pre F F.size) k = ex F k := by unfold pre; rw [nth_map_range _ _ _ (by omega), if_pos (by omega)]
          rw [hnk] at hc
          have hx := ex_lt F (by omega) k
          have hc2 := hL3.cell (j := ex F k) (by rw [logs_length]; exact hx)
          have hf2 := hL3.free (ex F k)
          have HS := Lib.hid (hL3.set_ (ex F k) k)
          have hm := Mod.set1 wr (H + 1 + 1) (ex F k) (.int .i64 (k : Nat))
          have HA := Lib.hid (hA3.mod hm (by omega))
          have HE := Lib.hid (hE3.mod hm (by omega))
          have HB := Lib.hid (hB3.setCell (p := ⟨H + 1 + 1, ex F k, none⟩) (by dsimp only; omega) (.int .i64 (k : Nat)))
          have hst : Hid (logs F (k + 1) = (logs F k).set (ex F k) k) := Lib.hid rfl
          clear hE3 hA3 hL3 hB3 hm hpl hnk
          generalize ex F k = x at *
          go_wp2_with fail
          go_roundw
          case rel => exact ⟨k + 1, by omega, by go_num, HE.out, HA.out, by rw [hst.out]; exact HS.out, HB.out⟩
          case measure => simp [intOf]; omega
        · obtain rfl : k = F.size - 1 := by omega
          clear hlt
          have c0 := hA3.cell? 0
          have c1 := hA3.cell? 1
          have f0 := hA3.free 0
          have f1 := hA3.free 1
          simp only [List.getElem?_cons_zero, List.getElem?_cons_succ] at c0 c1
          have hm0 := Mod.set1 wr H 0 (.slice (some ⟨H + 1, 0, none⟩) F.size F.size)
          have hm1 := Mod.set1 (wr.setCell ⟨H, 0, none⟩ (.slice (some ⟨H + 1, 0, none⟩) F.size F.size)) H 1 (.slice (some ⟨H + 1 + 1, 0, none⟩) F.size F.size)
          have hm := hm0.trans hm1
          have hA5 := (hA3.set_ 0 (.slice (some ⟨H + 1, 0, none⟩) F.size F.size)).set_ 1 (.slice (some ⟨H + 1 + 1, 0, none⟩) F.size F.size)
          have hE5 := hE3.mod hm (by omega)
          have hL5 := hL3.mod hm (by omega)
          have hB5 := (hB3.setCell (p := ⟨H, 0, none⟩) (Nat.le_refl _) (.slice (some ⟨H + 1, 0, none⟩) F.size F.size)).setCell (p := ⟨H, 1, none⟩) (Nat.le_refl _) (.slice (some ⟨H + 1 + 1, 0, none⟩) F.size F.size)
          simp only [List.set_cons_zero, List.set_cons_succ] at hA5
          clear hm0 hm1 hm hA3 hE3 hL3
          have hsz : H ≤ wr.heap.size := by have := hA5.lt; simp [World.setCell] at this; omega
          have hszz : (((wr.setCell ⟨H, 0, none⟩ (.slice (some ⟨H + 1, 0, none⟩) F.size F.size)).setCell ⟨H, 1, none⟩ (.slice (some ⟨H + 1 + 1, 0, none⟩) F.size F.size))).heap.size = wr.heap.size := by simp [World.setCell]
          go_wp2_with fail
          generalize (wr.setCell ⟨H, 0, none⟩ (.slice (some ⟨H + 1, 0, none⟩) F.size F.size)).setCell ⟨H, 1, none⟩ (.slice (some ⟨H + 1 + 1, 0, none⟩) F.size F.size) = W5 at *
          have hH5 := hA5.lt
          refine (poly_new (fun k => Q k ∧ k ≠ H) H _ [0] 1 _ (fun k hk => ?_) (by simp) (by simp) (SlQ.lit 0 _ hszz.symm ⟨hQ _ hsz, by omega⟩)).mono ?_
          · simp at hk; exact ⟨hQ k (by omega), by omega⟩
          · rintro e W6 ⟨z, rfl, hz, hb6, hzl⟩
            have hm6 := ((Mod.refl (S := fun _ => False) W5).alloc (.cells #[.int .i64 (0 : Nat)] 3)).trans (Mod.of_below hb6)
            have hA6 := hA5.mod hm6 (fun h => h)
            have hE6 := hE5.mod hm6 (fun h => h)
            have hL6 := hL5.mod hm6 (fun h => h)
            have hB6 := (hB5.alloc (by omega) (.cells #[.int .i64 (0 : Nat)] 3)).trans (hb6.mono (by simp; omega))
            have c2 := hA6.cell? 2
            have f2 := hA6.free 2
            simp only [List.getElem?_cons_zero, List.getElem?_cons_succ] at c2
            have hm7 := Mod.set1 W6 H 2 (.pointer (some ⟨z, 0, none⟩))
            have hA7 := hA6.set_ 2 (.pointer (some ⟨z, 0, none⟩))
            simp only [List.set_cons_zero, List.set_cons_succ] at hA7
            have hE7 := hE6.mod hm7 (by omega)
            have hL7 := hL6.mod hm7 (by omega)
            have hz7 := hz.mod hm7 (fun k hk => hk.2)
            have hB7 := hB6.setCell (p := ⟨H, 2, none⟩) (Nat.le_refl _) (.pointer (some ⟨z, 0, none⟩))
            have hs7 : (W6.setCell ⟨H, 2, none⟩ (.pointer (some ⟨z, 0, none⟩))).heap.size = W6.heap.size := by simp [World.setCell]
            clear hm6 hm7 hA6 hE6 hL6 hz hB6 hA5 hE5 hL5 hB5 hb6 c0 c1 f0 f1 hB3
            go_wp2_with fail
            generalize W6.setCell ⟨H, 2, none⟩ (.pointer (some ⟨z, 0, none⟩)) = W7 at *
            have hH7 := hA7.lt
            refine (poly_new (fun k => Q k ∧ k ≠ H) H _ [1] 1 _ (fun k hk => ?_) (by simp) (by simp) (SlQ.lit 1 _ hs7.symm ⟨hQ _ (by omega), by omega⟩)).mono ?_
            · simp at hk; exact ⟨hQ k (by omega), by omega⟩
            · rintro e W8 ⟨o, rfl, ho, hb8, hol⟩
              have hm8 := ((Mod.refl (S := fun _ => False) W7).alloc (.cells #[.int .i64 (1 : Nat)] 3)).trans (Mod.of_below hb8)
              have hA8 := hA7.mod hm8 (fun h => h)
              have hE8 := hE7.mod hm8 (fun h => h)
              have hL8 := hL7.mod hm8 (fun h => h)
              have hz8 := hz7.mod hm8 (fun _ _ h => h)
              have hB8 := (hB7.alloc (by omega) (.cells #[.int .i64 (1 : Nat)] 3)).trans (hb8.mono (by simp; omega))
              have c3 := hA8.cell? 3
              have f3 := hA8.free 3
              simp only [List.getElem?_cons_zero, List.getElem?_cons_succ] at c3
              have hm9 := Mod.set1 W8 H 3 (.pointer (some ⟨o, 0, none⟩))
              have hA9 := hA8.set_ 3 (.pointer (some ⟨o, 0, none⟩))
              simp only [List.set_cons_zero, List.set_cons_succ] at hA9
              have hE9 := hE8.mod hm9 (by omega)
              have hL9 := hL8.mod hm9 (by omega)
              have hz9 := hz8.mod hm9 (fun k hk => hk.2)
              have ho9 := ho.mod hm9 (fun k hk => hk.2)
              have hB9 := hB8.setCell (p := ⟨H, 3, none⟩) (Nat.le_refl _) (.pointer (some ⟨o, 0, none⟩))
              clear hm8 hm9 hA8 hE8 hL8 hz8 hB8 hA7 hE7 hL7 hB7 hb8 hz7 c2 f2
              go_wp2_with fail
              go_ret
              exact ⟨_, rfl, ⟨⟨_, _, _, _, hA9, hE9, hQ _ (by omega), hL9, hQ _ (by omega), hz9.imp (fun _ h => h.1), ho9.imp (fun _ h => h.1)⟩, hQ _ (Nat.le_refl _)⟩, by rw [← HH.out]; exact hB9, by rw [← HH.out]; exact Nat.le_refl _⟩
end Go.Proofs.YtiielblnmfeapaaGreatDoor
namespace Go.Proofs.YtiielblnmfeapaaGreatDoor
open Go.RowKit Go.Qz Go.Qz.RS
set_option linter.unusedVariables false

/-- A field, as a value. -/
def fv (F : Fld) : Value := .agg #[.int .i64 F.prim, .int .i64 F.size, .int .i64 F.base]

theorem tmod_neg (n m : Int) (hm : 0 < m) (hn : n < 0) : -m < n.tmod m ∧ n.tmod m ≤ 0 ∧ n % m = if n.tmod m < 0 then n.tmod m + m else n.tmod m := by
  have h1 : n.tmod m = -((-n) % m) := by
    have := Int.tmod_eq_emod_of_nonneg (a := -n) (b := m) (by omega)
    rw [Int.neg_tmod] at this; omega
  have h2 := Int.emod_nonneg (-n) (show m ≠ 0 by omega)
  have h3 := Int.emod_lt_of_pos (-n) hm
  have h4 : n % m = (n.tmod m) % m := by
    have h5 := Int.tmod_add_mul_tdiv n m
    have h6 : n % m = (n.tmod m + m * n.tdiv m) % m := by rw [h5]
    rw [h6, Int.add_mul_emod_self_left]
  refine ⟨by omega, by omega, ?_⟩
  split
  · rename_i hlt
    rw [h4]
    have h7 : (n.tmod m + m) % m = n.tmod m % m := Int.add_emod_right _ _
    rw [← h7]
    exact Int.emod_eq_of_lt (by omega) (by omega)
  · rename_i hge
    rw [h4]
    have : n.tmod m = 0 := by omega
    rw [this]; simp

/-- Numbers as elements, at most so many. -/
def elems (F : Fld) (z : Nat → Int) (k : Nat) : List Nat := (List.range k).map fun j => (z j % (F.size : Int)).toNat
theorem elems_succ (F : Fld) (z : Nat → Int) (k : Nat) : elems F z (k + 1) = elems F z k ++ [(z k % (F.size : Int)).toNat] := by simp [elems, List.range_succ]
theorem elems_length (F : Fld) (z : Nat → Int) (k : Nat) : (elems F z k).length = k := by simp [elems]
theorem elems_lt (F : Fld) (h : 4 ≤ F.size) (z : Nat → Int) (k : Nat) : ∀ x ∈ elems F z k, x < F.size := by
  intro x hx
  obtain ⟨j, _, rfl⟩ := List.mem_map.1 hx
  have := Int.emod_lt_of_pos (z j) (show (0 : Int) < (F.size : Int) by omega)
  have := Int.emod_nonneg (z j) (show (F.size : Int) ≠ 0 by omega)
  omega

/-- The numbers behind 'from'. -/
theorem tidy_split (l : List Nat) (hl : l ≠ []) : ∃ k, k < l.length ∧ (∀ j, j < k → nth l j = 0) ∧ (k + 1 = l.length ∨ nth l k ≠ 0) ∧ tidy l = l.drop k := by
  have key : ∀ n k, l.length - k = n → k < l.length → (∀ j, j < k → nth l j = 0) → ∃ k, k < l.length ∧ (∀ j, j < k → nth l j = 0) ∧ (k + 1 = l.length ∨ nth l k ≠ 0) ∧ tidy l = l.drop k := by
    intro n
    induction n with
    | zero => intro k h1 h2 _; omega
    | succ n ih =>
      intro k h1 h2 h3
      by_cases h : k + 1 = l.length ∨ nth l k ≠ 0
      · exact ⟨k, h2, h3, h, tidy_drop l k h2 h3 h⟩
      · have h4 : k + 1 < l.length := by omega
        have h5 : nth l k = 0 := by omega
        refine ih (k + 1) (by omega) h4 (fun j hj => ?_)
        by_cases hjk : j = k
        · rw [hjk]; exact h5
        · exact h3 j (by omega)
  have : 0 < l.length := List.length_pos_iff.2 hl
  exact key _ 0 rfl this (fun j hj => by omega)

theorem rd_drop {w : World} {l : List Nat} {k : Nat} {b off : Nat} (hc : ∀ j, j < l.length → w.cell? ⟨b, off + j, none⟩ = some (.int .i64 (nth l j : Nat))) (hb : b < w.heap.size) :
    Rd w (some ⟨b, off + k, none⟩) (l.length - k) (fun j => .int .i64 (nth (l.drop k) j : Nat)) := fun h0 =>
  ⟨b, off + k, rfl, hb, fun j hj => by
    have : nth (l.drop k) j = nth l (k + j) := by unfold nth; rw [List.getD_eq_getElem?_getD, List.getElem?_drop, List.getD_eq_getElem?_getD]
    dsimp only
    rw [this, Nat.add_assoc]
    exact hc (k + j) (by omega)⟩
theorem range_nth (l : List Nat) : (List.range l.length).map (fun j => Value.int .i64 ((nth l j : Nat) : Int)) = l.map fun x : Nat => Value.int .i64 (x : Int) := by
  apply List.ext_getElem
  · simp
  · intro i h1 h2
    simp at h1
    simp [nth_eq h1]

set_option maxRecDepth 100000 in
set_option maxHeartbeats 1600000 in
theorem rsTidy (l : List Nat) (hl : l ≠ []) (hn : l.length < 4294967296) (A : Option Addr) (c : Nat) (hc : l.length ≤ c) (w : World) (h : Rd w A l.length (fun j => .int .i64 (nth l j : Nat))) :
    Calls Tryz.prog 75 #[.slice A l.length c] w fun e w' => ∃ v, e = .returned v ∧ w'.ownsRow w.heap.size 3 1 v (tidy l).length ((tidy l).map fun x : Nat => Value.int .i64 (x : Int)) ∧ Below w.heap.size w w' := by
  obtain ⟨k0, hk0, hz, hor, ht⟩ := tidy_split l hl
  obtain ⟨b, off, rfl, hb, hcell⟩ := h (by omega)
  dsimp only at hcell
  have HZ := Lib.hid hz
  have HT := Lib.hid ht
  have HC := Lib.hid hcell
  have HOR := Lib.hid hor
  clear hz ht hcell h hor
  go_enter Tryz.func75, Tryz.ntmps75
  go_wp2_with fail
  go_loop [3] (fun i => ∃ k : Nat, k ≤ k0 ∧ i = .int .i64 k) (fun i => l.length - (intOf i).toNat)
  case atStart => exact ⟨0, by omega, rfl⟩
  case round =>
    obtain ⟨k, hk, rfl⟩ := hrel
    have hck := HC.out k (by omega)
    by_cases hlt : k < k0
    · rw [HZ.out k hlt] at hck
      go_wp2_with fail
      go_round
      case rel => exact ⟨k + 1, by omega, by go_num⟩
      case measure => simp [intOf]; omega
    · obtain rfl : k = k0 := by omega
      have hb0 : Below w.heap.size w (w.alloc (.cells #[] 3)) := (Below.refl _ _).alloc (Nat.le_refl _) _
      have hown := World.ownsRow_lit (e := 3) (size := 1) w #[] 0 (Nat.le_refl w.heap.size) (by unfold maxLen; omega) rfl
      have hrd := (rd_drop (k := k) HC.out hb).alloc (.cells #[] 3)
      have hle : (l.drop k).length = l.length - k := by simp
      have hrn := range_nth (l.drop k)
      rw [hle] at hrn
      have HRN := Lib.hid hrn
      have HLE := Lib.hid hle
      clear hrn hle
      by_cases he : k + 1 = l.length
      · have hg : ¬ ((k : Int) < (l.length : Int) - 1) := by omega
        have HE := Lib.hid he
        clear he
        go_wp2_with (at_builtin; refine wpList_copyTo _ _ 24 w.heap.size 3 (.int .i64 0) 8 _ 0 [] _ _ _ _ rfl rfl rfl rfl Tryz.underlying24 Tryz.infoInt rfl (fun j _ => rfl) (by decide) hown hrd (by omega) hb0.size ?_)
        intro v' w' hown' hg' hb'
        rw [HRN.out] at hown'
        have HO := Lib.hid hown'
        clear hown' hown hrd hck
        go_wp2_with fail
        go_ret
        exact ⟨_, rfl, by rw [HT.out, HLE.out]; exact HO.out, hb0.trans hb'⟩
      · have hnz : nth l k ≠ 0 := by have := HOR.out; omega
        have hg0 : (k : Int) < (l.length : Int) - 1 := by omega
        have hg : (((nth l k : Nat) : Int) == 0) = false := by simpa using (by omega : ((nth l k : Nat) : Int) ≠ 0)
        go_wp2_with (at_builtin; refine wpList_copyTo _ _ 24 w.heap.size 3 (.int .i64 0) 8 _ 0 [] _ _ _ _ rfl rfl rfl rfl Tryz.underlying24 Tryz.infoInt rfl (fun j _ => rfl) (by decide) hown hrd (by omega) hb0.size ?_)
        intro v' w' hown' hg' hb'
        rw [HRN.out] at hown'
        have HO := Lib.hid hown'
        clear hown' hown hrd hck
        go_wp2_with fail
        go_ret
        exact ⟨_, rfl, by rw [HT.out, HLE.out]; exact HO.out, hb0.trans hb'⟩

end Go.Proofs.YtiielblnmfeapaaGreatDoor
namespace Go.Proofs.YtiielblnmfeapaaGreatDoor
open Go.RowKit Go.Qz
set_option linter.unusedVariables false

/-- n elements f and m elements g are the same. -/
def SameP (n m : Nat) (f g : Nat → Int) (r : Bool) : Prop := r = true ↔ n = m ∧ ∀ j, j < n → f j = g j

end Go.Proofs.YtiielblnmfeapaaGreatDoor
namespace Go.Proofs.YtiielblnmfeapaaGreatDoor
open Go.RowKit Go.Qz Go.Qz.RS
set_option linter.unusedVariables false

theorem slq_of_own {w : World} {Q : Nat → Prop} {base : Nat} {e : TypeId} {v : Value} {n : Nat} {l : List Nat} (h : w.ownsRow base e 1 v n (l.map fun x : Nat => Value.int .i64 (x : Int))) (hQ : ∀ k, base ≤ k → Q k) :
    ∃ A c, v = .slice A l.length c ∧ n = l.length ∧ l.length ≤ c ∧ c ≤ maxLen ∧ SlQ w Q A l c := by
  obtain ⟨h1, h2⟩ := h
  have hn : n = l.length := by simpa using h1.symm
  subst hn
  rcases h2 with ⟨rfl, h0⟩ | ⟨g, cap, cur, rfl, hb, hh, hc, hm, hz, ht⟩
  · exact ⟨none, 0, by rw [h0], rfl, by omega, by unfold maxLen; omega, by omega, fun h => by omega⟩
  · refine ⟨some ⟨g, 0, none⟩, cap, rfl, rfl, hc, hm, hc, fun _ => ⟨g, 0, rfl, hQ g hb, (Array.getElem?_eq_some_iff.1 hh).1, fun j hj => ?_⟩⟩
    rw [cell_of_row w g (0 + j) cur e (0, 0) hh]
    have : (l.map fun x : Nat => Value.int .i64 (x : Int))[j]? = cur[j]? := by
      rw [← ht, List.getElem?_take]; simp; omega
    rw [Nat.zero_add, ← this]
    simp [hj, nth_eq hj]

set_option maxRecDepth 100000 in
set_option maxHeartbeats 800000 in
theorem polyDegree (Q : Nat → Prop) (p f : Nat) (cs : List Nat) (w : World) (h : PolyQ w Q p f cs) (hn : cs.length < 1000000) :
    Calls Tryz.prog 107 #[.pointer (some ⟨p, 0, none⟩)] w fun e w' => e = .returned (.int .i64 ((cs.length - 1 : Nat) : Int)) ∧ w = w' := by
  obtain ⟨⟨cb, off, cap, h1, h2, h3, h4, h5⟩, hp, hne⟩ := h
  have hpos : 0 < cs.length := List.length_pos_iff.2 hne
  have hc : w.cell? ⟨p, 1, none⟩ = some (.slice (some ⟨cb, off, none⟩) cs.length cap) := by rw [cell_of_row w p 1 _ _ _ h1]; rfl
  have he : ((cs.length : Int) - 1) = ((cs.length - 1 : Nat) : Int) := by omega
  have HE := Lib.hid he
  clear h5 h1 he
  go_enter Tryz.func107, Tryz.ntmps107
  go_wp2_with fail
  go_ret
  exact ⟨by rw [← HE.out]; rfl, rfl⟩

end Go.Proofs.YtiielblnmfeapaaGreatDoor
namespace Go.Proofs.YtiielblnmfeapaaGreatDoor
open Go.RowKit Go.Qz Go.Qz.RS
set_option linter.unusedVariables false

end Go.Proofs.YtiielblnmfeapaaGreatDoor
