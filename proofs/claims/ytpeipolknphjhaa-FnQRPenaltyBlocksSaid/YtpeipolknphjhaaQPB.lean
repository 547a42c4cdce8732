/-
  qrCells and ByteMatrix, walked. No condition beyond the bounds that each theorem states.
-/
import Derived.Test.YtpeipolknphjhaaQPA
namespace Go.Proofs.Ytpeipolknphjhaa
open Go.RowKit Go.Qz
set_option linter.unusedVariables false

def Some0 (w : World) (e : Ending) (w' : World) : Prop := ∃ v, e = .returned v ∧ Below w.heap.size w w'
def Cells0 (w : World) (e : Ending) (w' : World) : Prop := ∃ B v, e = .returned (.tuple #[.slice B 0 0, v]) ∧ Below w.heap.size w w'
set_option maxRecDepth 100000 in
theorem qrSquare0 (A : Option Addr) (c : Nat) (w : World) :
    Calls Try.prog 33 #[.slice A 0 c] w (Some0 w) := by
  have hmkH := fun W => run_make1 (P := Try.prog) 29 34 (.slice none 0 0) 24 Try.underlying29 Try.infoRowB rfl (by decide) 0 (by omega) .i64 .i64 0 rfl W
  have hb0 : Below w.heap.size w (w.alloc (.cells (zeros 0 (.slice none 0 0)) 34)) := (Below.refl _ _).alloc (Nat.le_refl _) _
  go_enter Try.func33, Try.ntmps33
  go_wp2_with fail
  go_loop [14] (fun i => i = .int .i64 0) (fun i => 0)
  case atStart => exact rfl
  case round =>
    subst hrel
    go_wp2_with fail
    go_ret
    exact ⟨_, rfl, hb0⟩
set_option maxRecDepth 100000 in
theorem qrCells0 (A : Option Addr) (c : Nat) (w : World) :
    Calls Try.prog 13 #[.slice A 0 c] w (Cells0 w) := by
  have hmkH := fun W => run_make1 (P := Try.prog) 31 62 (.slice none 0 0) 24 Try.underlying31 Try.infoRowI rfl (by decide) 0 (by omega) .i64 .i64 0 rfl W
  have HQ := Lib.hid (fun A c => qrSquare0 A c w)
  go_enter Try.func13, Try.ntmps13
  go_wp2_with fail
  all_goals
    refine (HQ.out _ _).mono ?_
    rintro e w1 ⟨v, rfl, hb⟩
    have hb0 : Below w.heap.size w (w1.alloc (.cells (zeros 0 (.slice none 0 0)) 62)) := hb.alloc hb.size _
    clear hb
    go_wp2_with fail
    go_loop [20] (fun i => i = .int .i64 0) (fun i => 0)
    case atStart => exact rfl
    case round =>
      subst hrel
      go_wp2_with fail
      go_ret2
      exact ⟨_, _, rfl, hb0⟩

/-- A cell: 1 or 0. -/
def cI (b : Bool) : Int := if b then 1 else 0
def CellsPost (n : Nat) (s : Nat → Nat → Bool) (w : World) (e : Ending) (w' : World) : Prop := ∃ G1 G2, e = .returned (.tuple #[.slice (some ⟨G2, 0, none⟩) n n, .slice (some ⟨G1, 0, none⟩) n n]) ∧
  Hid (Grid w' 34 4 G1 n n n (fun r c => .bool (s r c))) ∧ Hid (Grid w' 62 42 G2 n n n (fun r c => .int .i8 (cI (s r c)))) ∧ Below w.heap.size w w'

set_option maxRecDepth 100000 in
set_option maxHeartbeats 3200000 in
theorem qrCells (A : Option Addr) (n0 n c : Nat) (L : Nat → Nat) (Z : Nat → Nat → Bool) (hn1 : 1 ≤ n0) (hn : n = min n0 40) (hnc : n0 ≤ c) (hcm : c ≤ maxLen) (w : World) (hL : ∀ r, r < n0 → L r ≤ 2147483647) (h : BRows w A n0 L Z) :
    Calls Try.prog 13 #[.slice A n0 c] w (CellsPost n (sqB L Z) w) := by
  have hmkH := fun W => run_make1 (P := Try.prog) 31 62 (.slice none 0 0) 24 Try.underlying31 Try.infoRowI rfl (by decide) n (by omega) .i64 .i64 n rfl W
  have hmkW := fun X => run_make1 (P := Try.prog) 62 42 (.int .i8 0) 1 Try.underlying62 Try.infoI8 rfl (by decide) n (by omega) .i64 .i64 n rfl X
  have e1 : (if (40 : Int) < (n0 : Int) then (40 : Int) else (n0 : Int)) = (n : Int) := by split <;> omega
  have e1b : (if (n0 : Int) < (40 : Int) then (n0 : Int) else (40 : Int)) = (n : Int) := by split <;> omega
  have hn2 : 1 ≤ n := by omega
  have hn3 : n ≤ 40 := by omega
  have hn4 : (n : Int) ≤ (c : Int) := by omega
  have hn5 : n ≤ c := by omega
  have HQ := Lib.hid (fun c => qrSquare A n c L Z hn2 (by omega) w (fun r hr => hL r (by omega)) (h.less (by omega)))
  obtain ⟨s, hs⟩ : ∃ s, s = sqB L Z := ⟨_, rfl⟩
  rw [← hs] at HQ ⊢
  have hc2 : c ≤ 9223372036854775807 := by unfold maxLen at hcm; omega
  clear h hL hs hn hcm
  go_enter Try.func13, Try.ntmps13
  go_wp2_with fail
  refine (HQ.out _).mono ?_
  rintro e w1 ⟨G1, rfl, HS, hGl, _, hb1⟩
  have hG := Grid.zero (w := w1) 62 42 n n (fun r c => .int .i8 (cI (s r c)))
  have hs0 : (w1.alloc (.cells (zeros n (.slice none 0 0)) 62)).heap.size = w1.heap.size + 1 := by simp
  have hb0 : Below w1.heap.size w1 (w1.alloc (.cells (zeros n (.slice none 0 0)) 62)) := (Below.refl _ _).alloc (Nat.le_refl _) _
  have HB1 := Lib.hid hb1
  clear hb1 HQ
  go_wp2_with fail
  obtain ⟨W3, hW3⟩ : ∃ W3, W3 = w1.alloc (.cells (zeros n (.slice none 0 0)) 62) := ⟨_, rfl⟩
  rw [← hW3] at hG hb0 hs0 ⊢
  obtain ⟨G, hGe⟩ : ∃ G, G = w1.heap.size := ⟨_, rfl⟩
  rw [← hGe] at hG hb0 hs0 hGl ⊢
  have HGE := Lib.hid hGe
  have HS0 : Hid (W3.heap.size = G + 1 + 0) := Lib.hid hs0
  clear hW3 hGe hs0 hmkH
  go_loopw [20] (fun i wr => ∃ k : Nat, k ≤ n ∧ i = .int .i64 k ∧ Hid (Grid wr 62 42 G n n k (fun r c => .int .i8 (cI (s r c)))) ∧ Hid (wr.heap.size = G + 1 + k) ∧ Hid (Below G w1 wr)) (fun i _ => n - (intOf i).toNat)
  case atStart => exact ⟨0, by omega, rfl, Lib.hid hG, HS0, Lib.hid hb0⟩
  case round =>
    obtain ⟨k, hk, rfl, HG, HSZ, HB⟩ := hrel
    clear hG hb0 HS0
    by_cases hlt : k < n
    · have hck : wr.cell? ⟨G, k, none⟩ = some (.slice none 0 0) := by rw [HG.out.hd.cell?, hdr_get _ _ _ _ _ hlt, if_neg (by omega)]
      have hsz : wr.heap.size = G + 1 + k := HSZ.out
      have hk0 : (0 : Int) ≤ (k : Int) := by omega
      have hk1 : (k : Int) < (n : Int) := by omega
      have hGw := HG.out.hd.lt
      have hck2 : (wr.alloc (.cells (zeros n (.int .i8 0)) 42)).cell? ⟨G, k, none⟩ = some (.slice none 0 0) := (World.cell?_alloc_past _ _ _ hGw).trans hck
      have hfk2 : (wr.alloc (.cells (zeros n (.int .i8 0)) 42)).frozen? ⟨G, k, none⟩ = false := (HG.out.hd.mod (S := fun _ => False) ((Mod.refl _).alloc (.cells (zeros n (.int .i8 0)) 42)) (fun h => h)).free k
      have hG2 := (HG.out.congr (g := fun r c => .int .i8 (cI (sqK s k 0 r c))) (fun r c hr hc => by simp [sqK, hr])).push (.int .i8 0) (fun c hc => by simp [sqK, cI]) hsz
      have hB2 : Below G w1 ((wr.alloc (.cells (zeros n (.int .i8 0)) 42)).setCell ⟨G, k, none⟩ (.slice (some ⟨G + 1 + k, 0, none⟩) n n)) := (HB.out.alloc (by omega) _).setCell (p := ⟨G, k, none⟩) (Nat.le_refl _) _
      have hS2 : ((wr.alloc (.cells (zeros n (.int .i8 0)) 42)).setCell ⟨G, k, none⟩ (.slice (some ⟨G + 1 + k, 0, none⟩) n n)).heap.size = G + 1 + (k + 1) := by simp [World.setCell]; omega
      have cg := hG2.head k (by omega) hlt
      clear hck HG HB HSZ
      go_wp2_with fail
      obtain ⟨W4, hW4⟩ : ∃ W4, W4 = (wr.alloc (.cells (zeros n (.int .i8 0)) 42)).setCell ⟨G, k, none⟩ (.slice (some ⟨G + 1 + k, 0, none⟩) n n) := ⟨_, rfl⟩
      rw [← hW4] at hG2 hB2 hS2 ⊢
      have HG2 := Lib.hid hG2
      have HB2 := Lib.hid hB2
      have HS2 := Lib.hid hS2
      clear hG2 hB2 hS2 hW4 hck2 hfk2 hsz hGw cg
      go_loopw [33] (fun i wr => ∃ x : Nat, x ≤ n ∧ i = .int .i64 x ∧ Hid (Grid wr 62 42 G n n (k + 1) (fun r c => .int .i8 (cI (sqK s k x r c)))) ∧ Hid (wr.heap.size = G + 1 + (k + 1)) ∧ Hid (Below G w1 wr)) (fun i _ => n - (intOf i).toNat)
      case atStart => exact ⟨0, by omega, rfl, HG2, HS2, HB2⟩
      case round =>
        obtain ⟨x, hx, rfl, HG3, HS3, HB3⟩ := hrel
        clear HG2 HB2 HS2
        by_cases hxl : x < n
        · have hSQ := HS.out.mod (Mod.of_belowE HB3.out) (fun j h1 h2 => by omega)
          have ch := hSQ.head k hlt hlt
          have cz := hSQ.cell k x hlt hxl
          have cg := HG3.out.head k (by omega) hlt
          have cl := HG3.out.cell k x (by omega) hxl
          have fl := (HG3.out.row k (by omega)).free x
          have hx0 : (0 : Int) ≤ (x : Int) := by omega
          have hx1 : (x : Int) < (n : Int) := by omega
          clear hSQ
          have hup : ∀ r' c', r' < k + 1 → c' < n → ¬ (r' = k ∧ c' = x) → sqK s k (x + 1) r' c' = sqK s k x r' c' := fun r' c' hr' hc' e => by
            simp only [sqK]
            congr 1
            by_cases h1 : r' < k
            · simp [h1]
            · have h2 : r' = k := by omega
              have h3 : c' ≠ x := fun h => e ⟨h2, h⟩
              have h4 : (c' < x + 1) ↔ (c' < x) := by omega
              simp [h4]
          by_cases hv : s k x = true
          · rw [hv] at cz
            have HG6 := Lib.hid (HG3.out.set_ (g := fun r c => .int .i8 (cI (sqK s k (x + 1) r c))) k x (by omega) (.int .i8 1) (fun r' c' hr' hc' => by
              by_cases e : r' = k ∧ c' = x
              · obtain ⟨rfl, rfl⟩ := e
                simp [sqK, hv, cI]
              · rw [if_neg e, hup r' c' hr' hc' e]))
            have HB6 := Lib.hid (HB3.out.setCell (p := ⟨G + 1 + k, x, none⟩) (by dsimp only; omega) (.int .i8 1))
            have HS6 : Hid ((wr.setCell ⟨G + 1 + k, x, none⟩ (.int .i8 1)).heap.size = G + 1 + (k + 1)) := Lib.hid (by simp only [World.setCell]; rw [Array.size_modify]; exact HS3.out)
            clear hv hup HG3 HB3 HS3
            go_wp2_with fail
            go_roundw
            case rel => exact ⟨x + 1, by omega, by go_num, HG6, HS6, HB6⟩
            case measure => simp [intOf]; omega
          · have hv2 : s k x = false := by simpa using hv
            rw [hv2] at cz
            have HG6 := Lib.hid (HG3.out.congr (g := fun r c => .int .i8 (cI (sqK s k (x + 1) r c))) (fun r' c' hr' hc' => by
              by_cases e : r' = k ∧ c' = x
              · obtain ⟨rfl, rfl⟩ := e
                simp [sqK, hv2, cI]
              · rw [hup r' c' hr' hc' e]))
            clear hv hv2 hup HG3
            go_wp2_with fail
            go_roundw
            case rel => exact ⟨x + 1, by omega, by go_num, HG6, HS3, HB3⟩
            case measure => simp [intOf]; omega
        · obtain rfl : x = n := by omega
          have HG7 : Hid (Grid wr 62 42 G x x (k + 1) (fun r c => .int .i8 (cI (s r c)))) := Lib.hid (HG3.out.congr (fun r c hr hc => by simp [sqK, hc]))
          have hx1 : ((x : Int) < (x : Int)) = False := by simp
          clear HG3
          go_wp2_with fail
          go_roundw
          case rel => exact ⟨k + 1, by omega, by go_num, HG7, HS3, HB3⟩
          case measure => simp [intOf]; omega
    · obtain rfl : k = n := by omega
      have HSQ := Lib.hid (HS.out.mod (Mod.of_belowE HB.out) (fun j h1 h2 => by omega))
      have HBE : Hid (Below w.heap.size w wr) := Lib.hid (HB1.out.trans (HB.out.mono (by rw [HGE.out]; exact HB1.out.size)))
      go_wp2_with fail
      go_ret2
      exact ⟨G1, G, rfl, HSQ, HG, HBE.out⟩

/-- Block M is a ByteMatrix of n rows of n cells in the grid B. -/
structure MatAt (w : World) (M B n : Nat) (f : Nat → Nat → Value) : Prop where
  obj : Arr w 82 M [.slice (some ⟨B, 0, none⟩) n n, .int .i64 n, .int .i64 n]
  grid : Grid w 62 42 B n n n f
  lt : B + n < M
theorem MatAt.below {w w' : World} {M B n : Nat} {f : Nat → Nat → Value} (h : MatAt w M B n f) (hb : Below w.heap.size w w') : MatAt w' M B n f := ⟨h.obj.below hb h.obj.lt, h.grid.below hb, h.lt⟩
theorem MatAt.set_ {w : World} {M B n : Nat} {f g : Nat → Nat → Value} (h : MatAt w M B n f) (r c : Nat) (hr : r < n) (v : Value) (hg : ∀ r' c', r' < n → c' < n → g r' c' = if r' = r ∧ c' = c then v else f r' c') : MatAt (w.setCell ⟨B + 1 + r, c, none⟩ v) M B n g :=
  ⟨h.obj.mod (Mod.set1 w (B + 1 + r) c v) (by have := h.lt; omega), h.grid.set_ r c hr v hg, h.lt⟩

def NewMatPost (n : Nat) (w : World) (e : Ending) (w' : World) : Prop := ∃ M B, e = .returned (.pointer (some ⟨M, 0, none⟩)) ∧ MatAt w' M B n (fun _ _ => .int .i8 0) ∧ w.heap.size ≤ B ∧ Below w.heap.size w w'
set_option maxRecDepth 100000 in
set_option maxHeartbeats 3200000 in
theorem mat_new (n : Nat) (hn : n ≤ 400) (w : World) :
    Calls Try.prog 34 #[.int .i64 n, .int .i64 n] w (NewMatPost n w) := by
  have hmkH := fun W => run_make1 (P := Try.prog) 31 62 (.slice none 0 0) 24 Try.underlying31 Try.infoRowI rfl (by decide) n (by omega) .i64 .i64 n rfl W
  have hmkW := fun X => run_make1 (P := Try.prog) 62 42 (.int .i8 0) 1 Try.underlying62 Try.infoI8 rfl (by decide) n (by omega) .i64 .i64 n rfl X
  have hG := Grid.zero (w := w) 62 42 n n (fun _ _ => .int .i8 0)
  have hs0 : (w.alloc (.cells (zeros n (.slice none 0 0)) 62)).heap.size = w.heap.size + 1 := by simp
  have hb0 : Below w.heap.size w (w.alloc (.cells (zeros n (.slice none 0 0)) 62)) := (Below.refl _ _).alloc (Nat.le_refl _) _
  go_enter Try.func34, Try.ntmps34
  go_wp2_with fail
  obtain ⟨W3, hW3⟩ : ∃ W3, W3 = w.alloc (.cells (zeros n (.slice none 0 0)) 62) := ⟨_, rfl⟩
  rw [← hW3] at hG hb0 hs0 ⊢
  obtain ⟨G, hGe⟩ : ∃ G, G = w.heap.size := ⟨_, rfl⟩
  rw [← hGe] at hG hb0 hs0 ⊢
  have HGE := Lib.hid hGe
  have HS0 : Hid (W3.heap.size = G + 1 + 0) := Lib.hid hs0
  clear hW3 hGe hs0 hmkH
  go_loopw [6] (fun i wr => ∃ k : Nat, k ≤ n ∧ i = .int .i64 k ∧ Hid (Grid wr 62 42 G n n k (fun _ _ => .int .i8 0)) ∧ Hid (wr.heap.size = G + 1 + k) ∧ Hid (Below G w wr)) (fun i _ => n - (intOf i).toNat)
  case atStart => exact ⟨0, by omega, rfl, Lib.hid hG, HS0, Lib.hid hb0⟩
  case round =>
    obtain ⟨k, hk, rfl, HG, HSZ, HB⟩ := hrel
    clear hG hb0 HS0
    by_cases hlt : k < n
    · have hck : wr.cell? ⟨G, k, none⟩ = some (.slice none 0 0) := by rw [HG.out.hd.cell?, hdr_get _ _ _ _ _ hlt, if_neg (by omega)]
      have hsz : wr.heap.size = G + 1 + k := HSZ.out
      have hk0 : (0 : Int) ≤ (k : Int) := by omega
      have hk1 : (k : Int) < (n : Int) := by omega
      have hGw := HG.out.hd.lt
      have hck2 : (wr.alloc (.cells (zeros n (.int .i8 0)) 42)).cell? ⟨G, k, none⟩ = some (.slice none 0 0) := (World.cell?_alloc_past _ _ _ hGw).trans hck
      have hfk2 : (wr.alloc (.cells (zeros n (.int .i8 0)) 42)).frozen? ⟨G, k, none⟩ = false := (HG.out.hd.mod (S := fun _ => False) ((Mod.refl _).alloc (.cells (zeros n (.int .i8 0)) 42)) (fun h => h)).free k
      have HG2 := Lib.hid (HG.out.push (.int .i8 0) (fun c hc => rfl) hsz)
      have HB2 : Hid (Below G w ((wr.alloc (.cells (zeros n (.int .i8 0)) 42)).setCell ⟨G, k, none⟩ (.slice (some ⟨G + 1 + k, 0, none⟩) n n))) := Lib.hid ((HB.out.alloc (by omega) _).setCell (p := ⟨G, k, none⟩) (Nat.le_refl _) _)
      have HS2 : Hid (((wr.alloc (.cells (zeros n (.int .i8 0)) 42)).setCell ⟨G, k, none⟩ (.slice (some ⟨G + 1 + k, 0, none⟩) n n)).heap.size = G + 1 + (k + 1)) := Lib.hid (by simp [World.setCell]; omega)
      clear hck HG HB HSZ
      go_wp2_with fail
      go_roundw
      case rel => exact ⟨k + 1, by omega, by go_num, HG2, HS2, HB2⟩
      case measure => simp [intOf]; omega
    · obtain rfl : k = n := by omega
      have hsz : wr.heap.size = G + 1 + k := HSZ.out
      have hbb : Below wr.heap.size wr (wr.alloc (.cells #[.slice (some ⟨G, 0, none⟩) k k, .int .i64 k, .int .i64 k] 82)) := (Below.refl _ _).alloc (Nat.le_refl _) _
      have HM : Hid (MatAt (wr.alloc (.cells #[.slice (some ⟨G, 0, none⟩) k k, .int .i64 k, .int .i64 k] 82)) wr.heap.size G k (fun _ _ => .int .i8 0)) := Lib.hid ⟨Arr.new _ _ _, HG.out.below hbb, by omega⟩
      have HB2 : Hid (Below G w (wr.alloc (.cells #[.slice (some ⟨G, 0, none⟩) k k, .int .i64 k, .int .i64 k] 82))) := Lib.hid (HB.out.trans (hbb.mono (by omega)))
      have HSZ := Lib.hid hsz
      clear hsz hbb
      go_wp2_with fail
      go_ret
      exact ⟨wr.heap.size, G, rfl, HM.out, by rw [HGE.out]; exact Nat.le_refl _, by rw [← HGE.out]; exact HB2.out⟩

set_option maxRecDepth 100000 in
set_option maxHeartbeats 1600000 in
theorem mat_set (M B n x y : Nat) (v : Value) (h1 : v.oneCell' = true) (f : Nat → Nat → Value) (hx : x < n) (hy : y < n) (hn : n ≤ 400) (i : Int) (hv : v = .int .i8 i) (w : World) (h : MatAt w M B n f) :
    Calls Try.prog 35 #[.pointer (some ⟨M, 0, none⟩), .int .i64 x, .int .i64 y, v] w fun e w' => e = .returned (.tuple #[]) ∧ w' = w.setCell ⟨B + 1 + y, x, none⟩ v := by
  subst hv
  have a0 := h.obj.cell? 0
  simp only [List.getElem?_cons_zero] at a0
  have ch := h.grid.head y hy hy
  have cl := h.grid.cell y x hy hx
  have fl := (h.grid.row y hy).free x
  have hx0 : (0 : Int) ≤ (x : Int) := by omega
  have hx1 : (x : Int) < (n : Int) := by omega
  have hy0 : (0 : Int) ≤ (y : Int) := by omega
  have hy1 : (y : Int) < (n : Int) := by omega
  generalize f y x = z at cl
  clear h
  go_enter Try.func35, Try.ntmps35
  go_wp2_with fail
  go_end0
  exact ⟨rfl, rfl⟩
theorem mat_array (M B n : Nat) (f : Nat → Nat → Value) (w : World) (h : MatAt w M B n f) :
    Calls Try.prog 51 #[.pointer (some ⟨M, 0, none⟩)] w fun e w' => e = .returned (.slice (some ⟨B, 0, none⟩) n n) ∧ w = w' := by
  have a0 := h.obj.cell? 0
  simp only [List.getElem?_cons_zero] at a0
  clear h
  go_enter Try.func51, Try.ntmps51
  go_wp2_with fail
  go_ret
  exact ⟨rfl, rfl⟩
theorem mat_width (M B n : Nat) (f : Nat → Nat → Value) (w : World) (h : MatAt w M B n f) :
    Calls Try.prog 52 #[.pointer (some ⟨M, 0, none⟩)] w fun e w' => e = .returned (.int .i64 n) ∧ w = w' := by
  have a0 := h.obj.cell? 1
  simp only [List.getElem?_cons_zero, List.getElem?_cons_succ] at a0
  clear h
  go_enter Try.func52, Try.ntmps52
  go_wp2_with fail
  go_ret
  exact ⟨rfl, rfl⟩
theorem mat_height (M B n : Nat) (f : Nat → Nat → Value) (w : World) (h : MatAt w M B n f) :
    Calls Try.prog 53 #[.pointer (some ⟨M, 0, none⟩)] w fun e w' => e = .returned (.int .i64 n) ∧ w = w' := by
  have a0 := h.obj.cell? 2
  simp only [List.getElem?_cons_zero, List.getElem?_cons_succ] at a0
  clear h
  go_enter Try.func53, Try.ntmps53
  go_wp2_with fail
  go_ret
  exact ⟨rfl, rfl⟩
end Go.Proofs.Ytpeipolknphjhaa
