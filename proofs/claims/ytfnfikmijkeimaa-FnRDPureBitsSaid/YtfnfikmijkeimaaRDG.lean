/-
  Data Matrix: sizes, MapRows, MapCols, DMDark, walked. No condition beyond the bounds that each theorem states.
-/
import Derived.Test.YtfnfikmijkeimaaRDF
import Derived.BigQuiet
import Derived.BigRegion
import Derived.Great.Walk
namespace Go.Proofs.Ytfnfikmijkeimaa
open Go.RowKit Go.Qz Go.Qz.RD
set_option linter.unusedVariables false

/-- A size. -/
structure DS where
  rows : Nat
  cols : Nat
  rr : Nat
  rc : Nat
  dt : Nat
  er : Nat
  bl : Nat
def dcells (s : DS) : List Value := [.int .i64 s.rows, .int .i64 s.cols, .int .i64 s.rr, .int .i64 s.rc, .int .i64 s.dt, .int .i64 s.er, .int .i64 s.bl]
def dsv (s : DS) : Value := .agg #[.int .i64 s.rows, .int .i64 s.cols, .int .i64 s.rr, .int .i64 s.rc, .int .i64 s.dt, .int .i64 s.er, .int .i64 s.bl]
theorem dcellsOf {w : World} {b : Nat} {s : DS} (h : Arr w 27 b (dcells s)) : w.cell? ⟨b, 0, none⟩ = some (.int .i64 s.rows) ∧ w.cell? ⟨b, 1, none⟩ = some (.int .i64 s.cols) ∧ w.cell? ⟨b, 2, none⟩ = some (.int .i64 s.rr) ∧ w.cell? ⟨b, 3, none⟩ = some (.int .i64 s.rc) ∧ w.cell? ⟨b, 4, none⟩ = some (.int .i64 s.dt) ∧ w.cell? ⟨b, 5, none⟩ = some (.int .i64 s.er) ∧ w.cell? ⟨b, 6, none⟩ = some (.int .i64 s.bl) :=
  ⟨h.cell? 0, h.cell? 1, h.cell? 2, h.cell? 3, h.cell? 4, h.cell? 5, h.cell? 6⟩
/-- The sizes: sides, sides of a region, words of data and of error correction, blocks. -/
def szL : List (List Nat) := [[10, 10, 8, 8, 3, 5, 1], [12, 12, 10, 10, 5, 7, 1], [8, 18, 6, 16, 5, 7, 1], [14, 14, 12, 12, 8, 10, 1], [8, 32, 6, 14, 10, 11, 1], [16, 16, 14, 14, 12, 12, 1],
  [12, 26, 10, 24, 16, 14, 1], [18, 18, 16, 16, 18, 14, 1], [20, 20, 18, 18, 22, 18, 1], [12, 36, 10, 16, 22, 18, 1], [22, 22, 20, 20, 30, 20, 1], [16, 36, 14, 16, 32, 24, 1],
  [24, 24, 22, 22, 36, 24, 1], [26, 26, 24, 24, 44, 28, 1], [16, 48, 14, 22, 49, 28, 1], [32, 32, 14, 14, 62, 36, 1], [36, 36, 16, 16, 86, 42, 1], [40, 40, 18, 18, 114, 48, 1],
  [44, 44, 20, 20, 144, 56, 1], [48, 48, 22, 22, 174, 68, 1], [52, 52, 24, 24, 204, 84, 2], [64, 64, 14, 14, 280, 112, 2], [72, 72, 16, 16, 368, 144, 4], [80, 80, 18, 18, 456, 192, 4],
  [88, 88, 20, 20, 576, 224, 4], [96, 96, 22, 22, 696, 272, 4], [104, 104, 24, 24, 816, 336, 6], [120, 120, 18, 18, 1050, 408, 6], [132, 132, 20, 20, 1304, 496, 8], [144, 144, 22, 22, 1558, 620, 10]]
def sz (t : Nat) : DS := ⟨nth (szL.getD t []) 0, nth (szL.getD t []) 1, nth (szL.getD t []) 2, nth (szL.getD t []) 3, nth (szL.getD t []) 4, nth (szL.getD t []) 5, nth (szL.getD t []) 6⟩
def tabV : List Value := (List.range 30).flatMap fun t => dcells (sz t)
def TabPost (w : World) (e : Ending) (w' : World) : Prop := ∃ b : Nat, e = .returned (.slice (some ⟨b, 0, none⟩) 30 30) ∧ Below w.heap.size w w' ∧ Hid (Arr w' 27 b tabV)
set_option maxRecDepth 100000 in
set_option maxHeartbeats 3200000 in
theorem dmSizes (w : World) : Calls Try.prog 4 #[] w (TabPost w) := by
  go_enter Try.func4, Try.ntmps4
  go_wp2_with (first | (refine Great.wpList_readTo rfl (some 1) rfl (dsv (sz 0)) (by kernel_rfl) ?_) | (refine Great.wpList_readTo rfl (some 2) rfl (dsv (sz 1)) (by kernel_rfl) ?_) | (refine Great.wpList_readTo rfl (some 3) rfl (dsv (sz 2)) (by kernel_rfl) ?_) | (refine Great.wpList_readTo rfl (some 4) rfl (dsv (sz 3)) (by kernel_rfl) ?_) | (refine Great.wpList_readTo rfl (some 5) rfl (dsv (sz 4)) (by kernel_rfl) ?_) | (refine Great.wpList_readTo rfl (some 6) rfl (dsv (sz 5)) (by kernel_rfl) ?_) | (refine Great.wpList_readTo rfl (some 7) rfl (dsv (sz 6)) (by kernel_rfl) ?_) | (refine Great.wpList_readTo rfl (some 8) rfl (dsv (sz 7)) (by kernel_rfl) ?_) | (refine Great.wpList_readTo rfl (some 9) rfl (dsv (sz 8)) (by kernel_rfl) ?_) | (refine Great.wpList_readTo rfl (some 10) rfl (dsv (sz 9)) (by kernel_rfl) ?_) | (refine Great.wpList_readTo rfl (some 11) rfl (dsv (sz 10)) (by kernel_rfl) ?_) | (refine Great.wpList_readTo rfl (some 12) rfl (dsv (sz 11)) (by kernel_rfl) ?_) | (refine Great.wpList_readTo rfl (some 13) rfl (dsv (sz 12)) (by kernel_rfl) ?_) | (refine Great.wpList_readTo rfl (some 14) rfl (dsv (sz 13)) (by kernel_rfl) ?_) | (refine Great.wpList_readTo rfl (some 15) rfl (dsv (sz 14)) (by kernel_rfl) ?_) | (refine Great.wpList_readTo rfl (some 16) rfl (dsv (sz 15)) (by kernel_rfl) ?_) | (refine Great.wpList_readTo rfl (some 17) rfl (dsv (sz 16)) (by kernel_rfl) ?_) | (refine Great.wpList_readTo rfl (some 18) rfl (dsv (sz 17)) (by kernel_rfl) ?_) | (refine Great.wpList_readTo rfl (some 19) rfl (dsv (sz 18)) (by kernel_rfl) ?_) | (refine Great.wpList_readTo rfl (some 20) rfl (dsv (sz 19)) (by kernel_rfl) ?_) | (refine Great.wpList_readTo rfl (some 21) rfl (dsv (sz 20)) (by kernel_rfl) ?_) | (refine Great.wpList_readTo rfl (some 22) rfl (dsv (sz 21)) (by kernel_rfl) ?_) | (refine Great.wpList_readTo rfl (some 23) rfl (dsv (sz 22)) (by kernel_rfl) ?_) | (refine Great.wpList_readTo rfl (some 24) rfl (dsv (sz 23)) (by kernel_rfl) ?_) | (refine Great.wpList_readTo rfl (some 25) rfl (dsv (sz 24)) (by kernel_rfl) ?_) | (refine Great.wpList_readTo rfl (some 26) rfl (dsv (sz 25)) (by kernel_rfl) ?_) | (refine Great.wpList_readTo rfl (some 27) rfl (dsv (sz 26)) (by kernel_rfl) ?_) | (refine Great.wpList_readTo rfl (some 28) rfl (dsv (sz 27)) (by kernel_rfl) ?_) | (refine Great.wpList_readTo rfl (some 29) rfl (dsv (sz 28)) (by kernel_rfl) ?_) | (refine Great.wpList_readTo rfl (some 30) rfl (dsv (sz 29)) (by kernel_rfl) ?_) | (refine Great.wpList_buildSliceTo rfl 24 27 30 _ rfl w.heap.size rfl (some 31) rfl (by kernel_rfl) tabV.toArray (by kernel_rfl) ?_))
  go_ret
  exact ⟨w.heap.size, rfl, (Below.refl _ _).alloc (Nat.le_refl _) _, Lib.hid (Arr.new _ _ _)⟩
theorem tabV_at : ∀ t, t < 30 → tabV[t * 7]? = some (.int .i64 (sz t).rows) ∧ tabV[t * 7 + 1]? = some (.int .i64 (sz t).cols) ∧ tabV[t * 7 + 2]? = some (.int .i64 (sz t).rr) ∧ tabV[t * 7 + 3]? = some (.int .i64 (sz t).rc) ∧ tabV[t * 7 + 4]? = some (.int .i64 (sz t).dt) ∧ tabV[t * 7 + 5]? = some (.int .i64 (sz t).er) ∧ tabV[t * 7 + 6]? = some (.int .i64 (sz t).bl) := by
  intro t ht
  have h30 : t = 0 ∨ t = 1 ∨ t = 2 ∨ t = 3 ∨ t = 4 ∨ t = 5 ∨ t = 6 ∨ t = 7 ∨ t = 8 ∨ t = 9 ∨ t = 10 ∨ t = 11 ∨ t = 12 ∨ t = 13 ∨ t = 14 ∨ t = 15 ∨ t = 16 ∨ t = 17 ∨ t = 18 ∨ t = 19 ∨ t = 20 ∨ t = 21 ∨ t = 22 ∨ t = 23 ∨ t = 24 ∨ t = 25 ∨ t = 26 ∨ t = 27 ∨ t = 28 ∨ t = 29 := by omega
  rcases h30 with rfl | rfl | rfl | rfl | rfl | rfl | rfl | rfl | rfl | rfl | rfl | rfl | rfl | rfl | rfl | rfl | rfl | rfl | rfl | rfl | rfl | rfl | rfl | rfl | rfl | rfl | rfl | rfl | rfl | rfl <;> exact ⟨rfl, rfl, rfl, rfl, rfl, rfl, rfl⟩


/-- What holds of each size: regions fill it; the placement's classes. -/
structure SzOk (s : DS) : Prop where
  r0 : 8 ≤ s.rows
  r1 : s.rows ≤ 144
  c0 : 8 ≤ s.cols
  c1 : s.cols ≤ 144
  a0 : 1 ≤ s.rr
  b0 : 1 ≤ s.rc
  a1 : s.rr ≤ 30
  b1 : s.rc ≤ 30
  dr : s.rows = s.rows / (s.rr + 2) * (s.rr + 2)
  dc : s.cols = s.cols / (s.rc + 2) * (s.rc + 2)
  cls : Cls (s.rows / (s.rr + 2) * s.rr : Nat) (s.cols / (s.rc + 2) * s.rc : Nat)
  d1 : s.dt + s.er ≤ 3000
def okB (s : DS) : Bool := decide (8 ≤ s.rows ∧ s.rows ≤ 144 ∧ 8 ≤ s.cols ∧ s.cols ≤ 144 ∧ 1 ≤ s.rr ∧ 1 ≤ s.rc ∧ s.rr ≤ 30 ∧ s.rc ≤ 30 ∧ s.rows = s.rows / (s.rr + 2) * (s.rr + 2) ∧ s.cols = s.cols / (s.rc + 2) * (s.rc + 2) ∧ s.dt + s.er ≤ 3000)
def clsB (R C : Nat) : Bool := decide (6 ≤ R ∧ R ≤ 132 ∧ 8 ≤ C ∧ C ≤ 132 ∧ ((R % 8 = 0 ∧ C % 8 = 0) ∨ (R % 8 = 2 ∧ C % 8 = 2) ∨ (R % 8 = 4 ∧ C % 8 = 4) ∨ (R % 8 = 6 ∧ C % 8 = 6 ∧ R = C) ∨ (R % 8 = 2 ∧ C % 8 = 0) ∨ (R % 8 = 6 ∧ C % 8 = 4 ∧ R + 10 ≤ C) ∨ (R % 8 = 6 ∧ C % 8 = 0 ∧ R + 10 ≤ C)))
theorem cls_of {R C : Nat} (h : clsB R C = true) : Cls R C := by
  have h := of_decide_eq_true h
  obtain ⟨h1, h2, h3, h4, h5⟩ := h
  refine ⟨by omega, by omega, by omega, by omega, ?_⟩
  rcases h5 with h | h | h | h | h | h | h
  · exact .inl ⟨by omega, by omega⟩
  · exact .inr (.inl ⟨by omega, by omega⟩)
  · exact .inr (.inr (.inl ⟨by omega, by omega⟩))
  · exact .inr (.inr (.inr (.inl ⟨by omega, by omega, by omega⟩)))
  · exact .inr (.inr (.inr (.inr (.inl ⟨by omega, by omega⟩))))
  · exact .inr (.inr (.inr (.inr (.inr (.inl ⟨by omega, by omega, by omega⟩)))))
  · exact .inr (.inr (.inr (.inr (.inr (.inr ⟨by omega, by omega, by omega⟩)))))
theorem sz_all : ∀ t, t < 30 → okB (sz t) = true ∧ clsB ((sz t).rows / ((sz t).rr + 2) * (sz t).rr) ((sz t).cols / ((sz t).rc + 2) * (sz t).rc) = true := by decide +kernel
theorem szOk (t : Nat) (ht : t < 30) : SzOk (sz t) := by
  obtain ⟨h, h'⟩ := sz_all t ht
  obtain ⟨h1, h2, h3, h4, h5, h6, h7, h8, h9, h10, h11⟩ := of_decide_eq_true h
  exact ⟨h1, h2, h3, h4, h5, h6, h7, h8, h9, h10, cls_of h', h11⟩

set_option maxRecDepth 100000 in
set_option maxHeartbeats 1600000 in
theorem dmMapRows (s : DS) (h : SzOk s) (w : World) : Calls Try.prog 11 #[dsv s] w fun e w' => e = .returned (.int .i64 (s.rows / (s.rr + 2) * s.rr : Nat)) ∧ Below w.heap.size w w' := by
  obtain ⟨c0, c1, c2, c3, c4, c5, c6⟩ := dcellsOf (Arr.new w 27 (dcells s))
  have z1 : (s.rr : Int) ≤ 30 := by have := h.a1; omega
  have z2 : (s.rows : Int) ≤ 144 := by have := h.r1; omega
  have z3 : (0 : Int) ≤ (s.rr : Int) := by omega
  have z4 : (0 : Int) ≤ (s.rows : Int) := by omega
  obtain ⟨a, ha⟩ : ∃ a, a = s.rr := ⟨_, rfl⟩
  obtain ⟨r, hr⟩ : ∃ r, r = s.rows := ⟨_, rfl⟩
  obtain ⟨q, hq⟩ : ∃ q, q = s.rows / (s.rr + 2) := ⟨_, rfl⟩
  obtain ⟨m, hm⟩ : ∃ m, m = s.rows / (s.rr + 2) * s.rr := ⟨_, rfl⟩
  have hq1 : q ≤ 144 := by rw [hq]; exact Nat.le_trans (Nat.div_le_self _ _) h.r1
  have hm1 : m ≤ 144 * 30 := by rw [hm]; exact Nat.mul_le_mul (by omega) h.a1
  rw [← hm]
  have ea : IntKind.i64.wrap ((s.rr : Int) + 2) = ((s.rr : Int) + 2) := by rw [IntKind.wrap_i64]; omega
  have e0 : (s.rows : Int).tdiv ((s.rr : Int) + 2) = (q : Int) := by rw [Int.tdiv_eq_ediv_of_nonneg (by omega), hq]; simp
  have e1 : (s.rows : Int) / ((s.rr : Int) + 2) = (q : Int) := by rw [hq]; simp
  have ew : IntKind.i64.wrap (q : Int) = (q : Int) := by rw [IntKind.wrap_i64]; omega
  have e2 : (q : Int) * (s.rr : Int) = (m : Int) := by rw [hm, hq]; simp
  have ew2 : IntKind.i64.wrap (m : Int) = (m : Int) := by rw [IntKind.wrap_i64]; omega
  have hnz : ¬ (s.rr : Int) + 2 = 0 := by omega
  have hnz2 : ¬ s.rr + 2 = 0 := by omega
  unfold dcells at c0 c2
  unfold dsv
  clear hq hm ha hr c1 c3 c4 c5 c6 h
  go_enter Try.func11, Try.ntmps11
  go_wp2_with fail
  go_quiet (fail)
  go_wp2_with fail
  go_ret
  exact ⟨rfl, Go.Qz.below_drewN ((Below.refl _ _).alloc (Nat.le_refl _) _) _⟩
set_option maxRecDepth 100000 in
set_option maxHeartbeats 1600000 in
theorem dmMapCols (s : DS) (h : SzOk s) (w : World) : Calls Try.prog 12 #[dsv s] w fun e w' => e = .returned (.int .i64 (s.cols / (s.rc + 2) * s.rc : Nat)) ∧ Below w.heap.size w w' := by
  obtain ⟨c0, c1, c2, c3, c4, c5, c6⟩ := dcellsOf (Arr.new w 27 (dcells s))
  have z1 : (s.rc : Int) ≤ 30 := by have := h.b1; omega
  have z2 : (s.cols : Int) ≤ 144 := by have := h.c1; omega
  have z3 : (0 : Int) ≤ (s.rc : Int) := by omega
  have z4 : (0 : Int) ≤ (s.cols : Int) := by omega
  obtain ⟨a, ha⟩ : ∃ a, a = s.rc := ⟨_, rfl⟩
  obtain ⟨r, hr⟩ : ∃ r, r = s.cols := ⟨_, rfl⟩
  obtain ⟨q, hq⟩ : ∃ q, q = s.cols / (s.rc + 2) := ⟨_, rfl⟩
  obtain ⟨m, hm⟩ : ∃ m, m = s.cols / (s.rc + 2) * s.rc := ⟨_, rfl⟩
  have hq1 : q ≤ 144 := by rw [hq]; exact Nat.le_trans (Nat.div_le_self _ _) h.c1
  have hm1 : m ≤ 144 * 30 := by rw [hm]; exact Nat.mul_le_mul (by omega) h.b1
  rw [← hm]
  have ea : IntKind.i64.wrap ((s.rc : Int) + 2) = ((s.rc : Int) + 2) := by rw [IntKind.wrap_i64]; omega
  have e0 : (s.cols : Int).tdiv ((s.rc : Int) + 2) = (q : Int) := by rw [Int.tdiv_eq_ediv_of_nonneg (by omega), hq]; simp
  have e1 : (s.cols : Int) / ((s.rc : Int) + 2) = (q : Int) := by rw [hq]; simp
  have ew : IntKind.i64.wrap (q : Int) = (q : Int) := by rw [IntKind.wrap_i64]; omega
  have e2 : (q : Int) * (s.rc : Int) = (m : Int) := by rw [hm, hq]; simp
  have ew2 : IntKind.i64.wrap (m : Int) = (m : Int) := by rw [IntKind.wrap_i64]; omega
  have hnz : ¬ (s.rc : Int) + 2 = 0 := by omega
  have hnz2 : ¬ s.rc + 2 = 0 := by omega
  unfold dcells at c1 c3
  unfold dsv
  clear hq hm ha hr c0 c2 c4 c5 c6 h
  go_enter Try.func12, Try.ntmps12
  go_wp2_with fail
  go_quiet (fail)
  go_wp2_with fail
  go_ret
  exact ⟨rfl, Go.Qz.below_drewN ((Below.refl _ _).alloc (Nat.le_refl _) _) _⟩

/-- What the frame says of a module, as far as it is asked. -/
def DarkPost (s : DS) (row col : Nat) (w : World) (e : Ending) (w' : World) : Prop := ∃ d fr : Bool, e = .returned (.tuple #[.bool d, .bool fr]) ∧ Below w.heap.size w w' ∧
  Hid ((fr = false → 1 ≤ row % (s.rr + 2) ∧ row % (s.rr + 2) ≤ s.rr ∧ 1 ≤ col % (s.rc + 2) ∧ col % (s.rc + 2) ≤ s.rc) ∧ (col % (s.rc + 2) = 0 ∨ row % (s.rr + 2) = s.rr + 1 → fr = true ∧ d = true) ∧ (row % (s.rr + 2) = 0 → col % (s.rc + 2) = 1 → fr = true ∧ d = false))
set_option maxRecDepth 100000 in
set_option maxHeartbeats 3200000 in
theorem dmDark (s : DS) (h : SzOk s) (row col : Nat) (hrow : row < 1000) (hcol : col < 1000) (w : World) : Calls Try.prog 13 #[dsv s, .int .i64 row, .int .i64 col] w (DarkPost s row col w) := by
  obtain ⟨c0, c1, c2, c3, c4, c5, c6⟩ := dcellsOf (Arr.new w 27 (dcells s))
  have a1 := h.a1
  have b1 := h.b1
  have a0 := h.a0
  have b0 := h.b0
  obtain ⟨H, hH⟩ : ∃ H, H = s.rr + 2 := ⟨_, rfl⟩
  obtain ⟨W, hW⟩ : ∃ W, W = s.rc + 2 := ⟨_, rfl⟩
  have eH : IntKind.i64.wrap ((s.rr : Int) + 2) = (H : Int) := by rw [IntKind.wrap_i64]; omega
  have eW : IntKind.i64.wrap ((s.rc : Int) + 2) = (W : Int) := by rw [IntKind.wrap_i64]; omega
  obtain ⟨r, hr⟩ : ∃ r, r = row % H := ⟨_, rfl⟩
  obtain ⟨c, hc⟩ : ∃ c, c = col % W := ⟨_, rfl⟩
  have hrH : r < H := by rw [hr]; exact Nat.mod_lt _ (by omega)
  have hcW : c < W := by rw [hc]; exact Nat.mod_lt _ (by omega)
  have er := fun X => rem_run (row : Int) (H : Int) (r : Int) (by omega) (by rw [Int.tmod_eq_emod_of_nonneg (by omega), hr]; simp) X
  have ec := fun X => rem_run (col : Int) (W : Int) (c : Int) (by omega) (by rw [Int.tmod_eq_emod_of_nonneg (by omega), hc]; simp) X
  have er2 : (row : Int) % (H : Int) = (r : Int) := by rw [hr]; simp
  have ec2 : (col : Int) % (W : Int) = (c : Int) := by rw [hc]; simp
  have w1 : IntKind.i64.wrap ((H : Int) - 1) = (H : Int) - 1 := by rw [IntKind.wrap_i64]; omega
  have w2 : IntKind.i64.wrap ((W : Int) - 1) = (W : Int) - 1 := by rw [IntKind.wrap_i64]; omega
  have hH30 : H ≤ 32 := by omega
  have hH3 : 3 ≤ H := by omega
  have hW3 : 3 ≤ W := by omega
  have hW30 : W ≤ 32 := by omega
  have HPO : Hid (∀ d fr : Bool, ((fr = false → 1 ≤ r ∧ r + 1 < H ∧ 1 ≤ c ∧ c + 1 < W) ∧ (c = 0 ∨ r + 1 = H → fr = true ∧ d = true) ∧ (r = 0 → c = 1 → fr = true ∧ d = false)) → ∀ n, DarkPost s row col w (.returned (.tuple #[.bool d, .bool fr])) ((w.alloc (.cells #[.int .i64 s.rows, .int .i64 s.cols, .int .i64 s.rr, .int .i64 s.rc, .int .i64 s.dt, .int .i64 s.er, .int .i64 s.bl] 27)).drewN n)) := Lib.hid (fun d fr hd n =>
    ⟨d, fr, rfl, Go.Qz.below_drewN ((Below.refl _ _).alloc (Nat.le_refl _) _) _, Lib.hid (by
      rw [← hH, ← hW, ← hr, ← hc]
      exact ⟨fun e => by have := hd.1 e; omega, fun e => hd.2.1 (by omega), hd.2.2⟩)⟩)
  unfold dcells at c2 c3
  unfold dsv
  clear h hr hc c0 c1 c4 c5 c6 hH hW a1 b1 a0 b0
  go_enter Try.func13, Try.ntmps13
  go_wp2_with fail
  go_quiet (fail)
  go_wp2_with fail
  go_quiet (fail)
  by_cases h1 : c = 0
  · have g1 : ((c : Int) == 0) = true := by simp; omega
    go_wp2_with fail
    go_ret2
    exact HPO.out true true ⟨fun e => (by cases e), fun _ => ⟨rfl, rfl⟩, fun _ e => by omega⟩ _
  have g1 : ((c : Int) == 0) = false := by simp; omega
  by_cases h2 : r + 1 = H
  · have g2 : ((r : Int) == (H : Int) - 1) = true := by simp; omega
    go_wp2_with fail
    go_ret2
    exact HPO.out true true ⟨fun e => (by cases e), fun _ => ⟨rfl, rfl⟩, fun _ e => by omega⟩ _
  have g2 : ((r : Int) == (H : Int) - 1) = false := by simp; omega
  by_cases h3 : r = 0
  · have g3 : ((r : Int) == 0) = true := by simp; omega
    obtain ⟨k, hk⟩ : ∃ k, k = c % 2 := ⟨_, rfl⟩
    have ek : (c : Int).tmod 2 = (k : Int) := by rw [Int.tmod_eq_emod_of_nonneg (by omega)]; omega
    have ek2 : (c : Int) % 2 = (k : Int) := by omega
    obtain ⟨b, hb⟩ : ∃ b : Bool, b = ((k : Int) == 0) := ⟨_, rfl⟩
    have g4 : ((k : Int) == 0) = b := hb.symm
    have HX := Lib.hid (HPO.out b true ⟨fun e => (by cases e), fun e => by omega, fun _ e => ⟨rfl, by rw [hb]; simp; omega⟩⟩)
    clear hk hb
    go_wp2_with fail
    go_ret2
    exact HX.out _
  have g3 : ((r : Int) == 0) = false := by simp; omega
  by_cases h4 : c + 1 = W
  · have g4 : ((c : Int) == (W : Int) - 1) = true := by simp; omega
    obtain ⟨k, hk⟩ : ∃ k, k = r % 2 := ⟨_, rfl⟩
    have ek : (r : Int).tmod 2 = (k : Int) := by rw [Int.tmod_eq_emod_of_nonneg (by omega)]; omega
    have ek2 : (r : Int) % 2 = (k : Int) := by omega
    obtain ⟨b, hb⟩ : ∃ b : Bool, b = ((k : Int) == 1) := ⟨_, rfl⟩
    have g5 : ((k : Int) == 1) = b := hb.symm
    have HX := Lib.hid (HPO.out b true ⟨fun e => (by cases e), fun e => by omega, fun e => by omega⟩)
    clear hk hb
    go_wp2_with fail
    go_ret2
    exact HX.out _
  have g4 : ((c : Int) == (W : Int) - 1) = false := by simp; omega
  have HX := Lib.hid (HPO.out false false ⟨fun _ => by omega, fun e => by omega, fun e => by omega⟩)
  go_wp2_with fail
  go_ret2
  exact HX.out _
end Go.Proofs.Ytfnfikmijkeimaa
