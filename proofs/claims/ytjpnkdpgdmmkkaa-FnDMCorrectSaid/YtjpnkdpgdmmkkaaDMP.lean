/-
  Data Matrix: error correction by a shift register (plain). No program in sight.
-/
import Derived.Test.YtjpnkdpgdmmkkaaGFM
import Derived.Test.YtjpnkdpgdmmkkaaGFC
namespace Go.Qz.DM
open Go.Qz Go.Qz.RS
set_option linter.unusedVariables false

/-- The field. -/
def D : Fld := six 2
theorem six2 : Six D := ⟨2, by omega, rfl⟩
theorem D_size : D.size = 256 := rfl
theorem D_prim : D.prim = 301 := rfl
/-- A step of a product by doubling. -/
theorem mul_double {a c : Nat} (ha : a < 256) (hc : 2 * c < 256) : mul D a (2 * c) = mul D (RS.step D a) c := by
  have h1 : RS.step D c = 2 * c := by unfold RS.step; rw [if_neg (by rw [D_size]; omega)]
  have h2 : RS.step D a < 256 := step_lt D a (by rw [D_size]; omega)
  rw [← h1, mul_step six2 ha (show c < D.size by rw [D_size]; omega), mul_comm six2 h2 (show c < D.size by rw [D_size]; omega), mul_step six2 (show c < D.size by rw [D_size]; omega) ha, mul_comm six2 ha (show c < D.size by rw [D_size]; omega)]
theorem mul_odd {a c : Nat} (ha : a < 256) (hc : 2 * c + 1 < 256) : mul D a (2 * c + 1) = a ^^^ mul D (RS.step D a) c := by
  have e : 2 * c + 1 = (2 * c) ^^^ 1 := by
    apply Nat.eq_of_testBit_eq
    intro i
    rw [Nat.testBit_xor]
    cases i with
    | zero => simp [Nat.testBit_zero]
    | succ i =>
      rw [Nat.testBit_succ, Nat.testBit_succ, Nat.testBit_succ]
      simp [show (2 * c + 1) / 2 = c by omega, show 2 * c / 2 = c by omega]
  rw [e, mul_xor_right six2 (show a < D.size from ha), mul_double ha (by omega), mul_one six2 (show a < D.size from ha), Nat.xor_comm]

/-- The generator's coefficients, the highest first. -/
def nx (g : List Nat) (e : Nat) : List Nat := (List.range (g.length + 1)).map fun i => nth g i ^^^ (if i = 0 then 0 else mul D (nth g (i - 1)) e)
def gd : Nat → List Nat
  | 0 => [1]
  | n + 1 => nx (gd n) (ex D (n + 1))
theorem gd_length : ∀ n, (gd n).length = n + 1
  | 0 => rfl
  | n + 1 => by simp [gd, nx, gd_length n]
theorem nx_nth {g : List Nat} {e i : Nat} (h : i < g.length + 1) : nth (nx g e) i = nth g i ^^^ (if i = 0 then 0 else mul D (nth g (i - 1)) e) := nth_map_range _ _ _ h
theorem D_el {g : List Nat} (h : ∀ i, i < g.length → nth g i < 256) (i : Nat) : nth g i < 256 := by
  rcases Nat.lt_or_ge i g.length with h1 | h1
  · exact h i h1
  · rw [nth_past h1]; omega
theorem xor_256 {x y : Nat} (hx : x < 256) (hy : y < 256) : x ^^^ y < 256 := xor_lt_size (F := D) six2 hx hy
theorem mul_256 {a : Nat} (ha : a < 256) (b : Nat) : mul D a b < 256 := mul_lt (F := D) six2 ha
theorem nx_lt {g : List Nat} {e : Nat} (h : ∀ i, nth g i < 256) (i : Nat) : nth (nx g e) i < 256 := by
  refine D_el (fun i hi => ?_) i
  rw [nx_nth (by simpa [nx] using hi)]
  refine xor_256 (h i) ?_
  split
  · omega
  · exact mul_256 (h _) _
theorem gd_lt : ∀ n i, nth (gd n) i < 256
  | 0, i => by
    refine D_el (fun i hi => ?_) i
    obtain rfl : i = 0 := by simp [gd] at hi; omega
    decide
  | n + 1, i => nx_lt (gd_lt n) i
theorem gd_head : ∀ n, nth (gd n) 0 = 1
  | 0 => rfl
  | n + 1 => by
    show nth (nx (gd n) _) 0 = 1
    rw [nx_nth (by omega), if_pos rfl, gd_head n]; rfl

/-- One word goes into the register. -/
def lf (n : Nat) (g s : List Nat) (d : Nat) : List Nat := (List.range n).map fun j => nth s (j + 1) ^^^ mul D (nth s 0 ^^^ d) (nth g (j + 1))
def lfs (n : Nat) (g : List Nat) (data : List Nat) : List Nat := data.foldl (lf n g) (List.replicate n 0)
theorem lf_nth {n : Nat} {g s : List Nat} {d j : Nat} (h : j < n) : nth (lf n g s d) j = nth s (j + 1) ^^^ mul D (nth s 0 ^^^ d) (nth g (j + 1)) := nth_map_range _ _ _ h
theorem lf_length (n : Nat) (g s : List Nat) (d : Nat) : (lf n g s d).length = n := by simp [lf]
theorem lfs_snoc (n : Nat) (g data : List Nat) (d : Nat) : lfs n g (data ++ [d]) = lf n g (lfs n g data) d := by simp [lfs]
theorem lfs_take {n : Nat} {g data : List Nat} {k : Nat} (h : k < data.length) : lfs n g (data.take (k + 1)) = lf n g (lfs n g (data.take k)) (nth data k) := by rw [take_nth h, lfs_snoc]
theorem foldl_length (n : Nat) (g : List Nat) : ∀ (data s : List Nat), s.length = n → (data.foldl (lf n g) s).length = n
  | [], s, h => h
  | d :: t, s, h => foldl_length n g t _ (lf_length _ _ _ _)
theorem lfs_length (n : Nat) (g data : List Nat) : (lfs n g data).length = n := foldl_length n g data _ (by simp)
theorem lf_lt {n : Nat} {g s : List Nat} {d : Nat} (hs : ∀ j, nth s j < 256) (hd : d < 256) (j : Nat) : nth (lf n g s d) j < 256 := by
  refine D_el (fun j hj => ?_) j
  rw [lf_nth (by simpa [lf] using hj)]
  exact xor_256 (hs _) (mul_256 (xor_256 (hs _) hd) _)
theorem foldl_lt {n : Nat} {g : List Nat} : ∀ (data s : List Nat), (∀ j, nth s j < 256) → (∀ j, nth data j < 256) → ∀ j, nth (data.foldl (lf n g) s) j < 256
  | [], s, h, _ => h
  | d :: t, s, h, hd => foldl_lt t _ (lf_lt h (hd 0)) (fun j => hd (j + 1))
theorem lfs_lt {n : Nat} {g data : List Nat} (hd : ∀ j, nth data j < 256) (j : Nat) : nth (lfs n g data) j < 256 :=
  foldl_lt data _ (fun j => by rw [nth_replicate]; split <;> omega) hd j

/-- The engine's tables of factors, the lowest first, and for how many words they are. -/
def facN : List Nat := [5, 7, 10, 11, 12, 14, 18, 20, 24, 28, 36, 42, 48, 56, 62, 68]
def facOf (n : Nat) : List Nat := ((gd n).drop 1).reverse
theorem facOf_length (n : Nat) : (facOf n).length = n := by simp [facOf, gd_length]
theorem facOf_nth {n k : Nat} (h : k < n) : nth (facOf n) k = nth (gd n) (n - k) := by
  unfold facOf
  rw [nth_eq (by simpa [gd_length] using h), List.getElem_reverse, List.getElem_drop]
  rw [nth_eq (by rw [gd_length]; omega)]
  congr 1
  simp [gd_length]; omega
end Go.Qz.DM
