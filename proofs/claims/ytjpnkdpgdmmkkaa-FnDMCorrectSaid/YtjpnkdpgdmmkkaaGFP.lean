/-
  Plain facts on polynomials and fields of 2^m elements: no program in sight.
-/
namespace Go.Qz.RS
set_option linter.unusedVariables false

/-- Without zeros ahead. -/
def tidy : List Nat → List Nat
  | [] => []
  | [a] => [a]
  | a :: b :: t => if a = 0 then tidy (b :: t) else a :: b :: t
theorem tidy_ne : ∀ l : List Nat, l ≠ [] → tidy l ≠ []
  | [], h => h
  | [a], _ => by simp [tidy]
  | a :: b :: t, _ => by
    unfold tidy
    split
    · exact tidy_ne (b :: t) (by simp)
    · simp
theorem tidy_length : ∀ l : List Nat, (tidy l).length ≤ l.length
  | [] => Nat.le_refl _
  | [x] => Nat.le_refl _
  | 0 :: y :: r => by
    have := tidy_length (y :: r)
    simp [tidy] at *; omega
  | (x + 1) :: y :: r => by simp [tidy]
theorem tidy_drop : ∀ (l : List Nat) (k : Nat), k < l.length → (∀ j, j < k → l.getD j 0 = 0) → (k + 1 = l.length ∨ l.getD k 0 ≠ 0) → tidy l = l.drop k
  | [], _, h, _, _ => by simp at h
  | [a], 0, _, _, _ => rfl
  | [a], k + 1, h, _, _ => by simp at h
  | a :: b :: t, 0, _, _, h => by
    unfold tidy
    rcases h with h | h
    · simp at h
    · simp at h; simp [h]
  | a :: b :: t, k + 1, hk, hz, h => by
    have h0 := hz 0 (by omega)
    simp at h0
    unfold tidy
    rw [if_pos h0, List.drop_succ_cons]
    refine tidy_drop (b :: t) k (by simpa using hk) (fun j hj => ?_) ?_
    · have := hz (j + 1) (by omega); simpa using this
    · rcases h with h | h
      · left; simpa using h
      · right; simpa using h

/-- A field: its primitive polynomial's bits, its size, the base of generators. -/
structure Fld where
  prim : Nat
  size : Nat
  base : Nat
/-- Twice an element. -/
def step (F : Fld) (x : Nat) : Nat := if F.size ≤ 2 * x then (2 * x ^^^ F.prim) &&& (F.size - 1) else 2 * x
/-- The powers of 2. -/
def ex (F : Fld) : Nat → Nat
  | 0 => 1
  | i + 1 => step F (ex F i)
theorem step_lt (F : Fld) (x : Nat) (h : 1 < F.size) : step F x < F.size := by
  unfold step
  split
  · have := Nat.and_le_right (n := 2 * x ^^^ F.prim) (m := F.size - 1); omega
  · omega
theorem ex_lt (F : Fld) (h : 1 < F.size) : ∀ i, ex F i < F.size
  | 0 => h
  | i + 1 => step_lt F _ h
/-- The table of powers, so far. -/
def pre (F : Fld) (k : Nat) : List Nat := (List.range F.size).map fun j => if j < k then ex F j else 0
theorem pre_set (F : Fld) (k : Nat) : (pre F k).set k (ex F k) = pre F (k + 1) := by
  apply List.ext_getElem?
  intro i
  rw [List.getElem?_set]
  unfold pre
  by_cases h : i = k
  · subst h
    by_cases hl : i < F.size <;> simp [hl]
  · rw [if_neg (fun e => h e.symm)]
    by_cases hl : i < F.size
    · simp only [List.getElem?_map, List.getElem?_range hl, Option.map_some]
      by_cases hk : i < k
      · simp [hk, show i < k + 1 by omega]
      · simp [hk, show ¬ i < k + 1 by omega]
    · rw [List.getElem?_eq_none (by simpa using hl), List.getElem?_eq_none (by simpa using hl)]
theorem pre_zero (F : Fld) : pre F 0 = List.replicate F.size 0 := by
  unfold pre
  apply List.ext_getElem?
  intro i
  by_cases hl : i < F.size
  · simp [hl]
  · rw [List.getElem?_eq_none (by simpa using hl), List.getElem?_eq_none (by simpa using hl)]
/-- The table of logarithms, so far. -/
def logs (F : Fld) : Nat → List Nat
  | 0 => List.replicate F.size 0
  | k + 1 => (logs F k).set (ex F k) k
theorem logs_length (F : Fld) : ∀ k, (logs F k).length = F.size
  | 0 => by simp [logs]
  | k + 1 => by simp [logs, logs_length F k]
/-- The logarithm that the table says. -/
def lg (F : Fld) (a : Nat) : Nat := (logs F (F.size - 1)).getD a 0
/-- The six fields of the symbols. -/
def six : Nat → Fld
  | 0 => ⟨19, 16, 1⟩
  | 1 => ⟨67, 64, 1⟩
  | 2 => ⟨301, 256, 1⟩
  | 3 => ⟨285, 256, 0⟩
  | 4 => ⟨1033, 1024, 1⟩
  | _ => ⟨4201, 4096, 1⟩
def Six (F : Fld) : Prop := ∃ k, k < 6 ∧ F = six k
theorem Six.bounds {F : Fld} (h : Six F) : 4 ≤ F.size ∧ F.size ≤ 4096 ∧ F.prim < 8192 ∧ F.base < 2 := by
  obtain ⟨k, hk, rfl⟩ := h
  rcases k with _ | _ | _ | _ | _ | _ | k <;> simp [six] at *
end Go.Qz.RS
