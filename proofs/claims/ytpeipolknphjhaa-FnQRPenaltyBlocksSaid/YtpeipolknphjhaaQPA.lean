/-
  zzFits7, qrSquare, qrCells, walked. No condition beyond the bounds that each theorem states.
-/
import Derived.Test.YtpeipolknphjhaaRows
import Derived.Test.YtpeipolknphjhaaGRD
import Derived.WideLaws
import Derived.OwnWalk
import Derived.Deep.DeepCutAuto
import Derived.RegionTactic
import Derived.BigRegion
namespace Go.Proofs.Ytpeipolknphjhaa
open Go.RowKit Go.Qz
set_option linter.unusedVariables false

theorem Try.infoRowB : (Try.prog.info? 34).map (fun i => (i.zero, i.size, i.bytes)) = some (some (.slice none 0 0), 1, 24) := by kernel_rfl
theorem Try.infoB : (Try.prog.info? 4).map (fun i => (i.zero, i.size, i.bytes)) = some (some (.bool false), 1, 1) := by kernel_rfl
theorem Try.infoRowI : (Try.prog.info? 62).map (fun i => (i.zero, i.size, i.bytes)) = some (some (.slice none 0 0), 1, 24) := by kernel_rfl
theorem Try.infoI8 : (Try.prog.info? 42).map (fun i => (i.zero, i.size, i.bytes)) = some (some (.int .i8 0), 1, 1) := by kernel_rfl

def Fits7 (n : Nat) (L : Nat → Nat) (b : Bool) : Prop := b = true → n ≤ 2147483647 ∧ ∀ r, r < n → L r ≤ 2147483647
set_option maxRecDepth 100000 in
set_option maxHeartbeats 1600000 in
theorem fits7 (A : Option Addr) (n c : Nat) (L : Nat → Nat) (Z : Nat → Nat → Bool) (w : World) (hnc : n ≤ c) (hcm : c ≤ maxLen) (h : BRows w A n L Z) :
    Calls Try.prog 12 #[.slice A n c] w (RetB (Fits7 n L) w) := by
  by_cases hbig : (2147483647 : Int) < n
  · go_enter Try.func12, Try.ntmps12
    go_wp2_with fail
    go_ret
    exact RetB.mk false (fun h => by cases h) (Below.refl _ _)
  have hn : n ≤ 2147483647 := by omega
  have HR := Lib.hid h
  clear h hcm
  go_enter Try.func12, Try.ntmps12
  go_wp2_with fail
  go_loop [10] (fun i => ∃ k : Nat, k ≤ n ∧ i = .int .i64 k ∧ Hid (∀ r, r < k → L r ≤ 2147483647)) (fun i => n - (intOf i).toNat)
  case atStart => exact ⟨0, by omega, rfl, Lib.hid (fun r hr => by omega)⟩
  case round =>
    obtain ⟨k, hk, rfl, HK⟩ := hrel
    by_cases hlt : k < n
    · obtain ⟨b, off, rfl, hb, hr⟩ := HR.out (by omega)
      obtain ⟨B, C, hc, hlc, hcm, _⟩ := hr k hlt
      have hk1 : (k : Int) < (n : Int) := by omega
      clear hr
      by_cases hl : L k ≤ 2147483647
      · have hl1 : ((2147483647 : Int) < (L k : Int)) = False := by simp; omega
        have HK2 : Hid (∀ r, r < k + 1 → L r ≤ 2147483647) := Lib.hid (fun r hr => by
          by_cases e : r = k
          · rw [e]; exact hl
          · exact HK.out r (by omega))
        clear hl
        go_wp2_with fail
        go_round
        case rel => exact ⟨k + 1, by omega, by go_num, HK2⟩
        case measure => simp [intOf]; omega
      · have hl1 : (2147483647 : Int) < (L k : Int) := by omega
        clear hl
        go_wp2_with fail
        go_ret
        exact RetB.mk false (fun h => by cases h) (Below.refl _ _)
    · obtain rfl : k = n := by omega
      go_wp2_with fail
      go_ret
      exact RetB.mk true (fun _ => ⟨hn, HK.out⟩) (Below.refl _ _)

/-- The square of rows: what is not there is false. -/
def sqB (L : Nat → Nat) (Z : Nat → Nat → Bool) (r c : Nat) : Bool := decide (c < L r) && Z r c
/-- The square so far: k rows, and x of the next. -/
def sqK (s : Nat → Nat → Bool) (k x r c : Nat) : Bool := (decide (r < k) || decide (c < x)) && s r c
def GridPost (tr te n : Nat) (f : Nat → Nat → Value) (w : World) (e : Ending) (w' : World) : Prop := ∃ G, e = .returned (.slice (some ⟨G, 0, none⟩) n n) ∧ Hid (Grid w' tr te G n n n f) ∧ G + n < w'.heap.size ∧ w.heap.size ≤ G ∧ Below w.heap.size w w'

set_option maxRecDepth 100000 in
set_option maxHeartbeats 3200000 in
theorem qrSquare (A : Option Addr) (n c : Nat) (L : Nat → Nat) (Z : Nat → Nat → Bool) (hn1 : 1 ≤ n) (hn : n ≤ 60) (w : World) (hL : ∀ r, r < n → L r ≤ 2147483647) (h : BRows w A n L Z) :
    Calls Try.prog 33 #[.slice A n c] w (GridPost 34 4 n (fun r c => .bool (sqB L Z r c)) w) := by
  have hmkH := fun W => run_make1 (P := Try.prog) 29 34 (.slice none 0 0) 24 Try.underlying29 Try.infoRowB rfl (by decide) n (by omega) .i64 .i64 n rfl W
  have hmkW := fun X => run_make1 (P := Try.prog) 34 4 (.bool false) 1 Try.underlying34 Try.infoB rfl (by decide) n (by omega) .i64 .i64 n rfl X
  have e1 : (if (60 : Int) < (n : Int) then (60 : Int) else (n : Int)) = (n : Int) := by split <;> omega
  have e1b : (if (n : Int) < (60 : Int) then (n : Int) else (60 : Int)) = (n : Int) := by split <;> omega
  have HR := Lib.hid h
  have HL := Lib.hid hL
  have hG := Grid.zero (w := w) 34 4 n n (fun r c => .bool (sqB L Z r c))
  have hb0 : Below w.heap.size w (w.alloc (.cells (zeros n (.slice none 0 0)) 34)) := (Below.refl _ _).alloc (Nat.le_refl _) _
  have hs0 : (w.alloc (.cells (zeros n (.slice none 0 0)) 34)).heap.size = w.heap.size + 1 := by simp
  clear h hL
  go_enter Try.func33, Try.ntmps33
  go_wp2_with fail
  obtain ⟨W3, hW3⟩ : ∃ W3, W3 = w.alloc (.cells (zeros n (.slice none 0 0)) 34) := ⟨_, rfl⟩
  rw [← hW3] at hG hb0 hs0 ⊢
  obtain ⟨G, hGe⟩ : ∃ G, G = w.heap.size := ⟨_, rfl⟩
  rw [← hGe] at hG hb0 hs0 ⊢
  have HGE := Lib.hid hGe
  have HS0 : Hid (W3.heap.size = G + 1 + 0) := Lib.hid hs0
  clear hW3 hGe hs0 hmkH
  go_loopw [14] (fun i wr => ∃ k : Nat, k ≤ n ∧ i = .int .i64 k ∧ Hid (Grid wr 34 4 G n n k (fun r c => .bool (sqB L Z r c))) ∧ Hid (wr.heap.size = G + 1 + k) ∧ Hid (Below G w wr)) (fun i _ => n - (intOf i).toNat)
  case atStart => exact ⟨0, by omega, rfl, Lib.hid hG, HS0, Lib.hid hb0⟩
  case round =>
    obtain ⟨k, hk, rfl, HG, HS, HB⟩ := hrel
    clear hG hb0 HS0
    by_cases hlt : k < n
    · have hck : wr.cell? ⟨G, k, none⟩ = some (.slice none 0 0) := by rw [HG.out.hd.cell?, hdr_get _ _ _ _ _ hlt, if_neg (by omega)]
      have hsz : wr.heap.size = G + 1 + k := HS.out
      have hk0 : (0 : Int) ≤ (k : Int) := by omega
      have hk1 : (k : Int) < (n : Int) := by omega
      have hGl := HG.out.hd.lt
      have hck2 : (wr.alloc (.cells (zeros n (.bool false)) 4)).cell? ⟨G, k, none⟩ = some (.slice none 0 0) := (World.cell?_alloc_past _ _ _ hGl).trans hck
      have hfk2 : (wr.alloc (.cells (zeros n (.bool false)) 4)).frozen? ⟨G, k, none⟩ = false := (HG.out.hd.mod (S := fun _ => False) ((Mod.refl _).alloc (.cells (zeros n (.bool false)) 4)) (fun h => h)).free k
      have hG2 := (HG.out.congr (g := fun r c => .bool (sqK (sqB L Z) k 0 r c)) (fun r c hr hc => by simp [sqK, hr])).push (.bool false) (fun c hc => by simp [sqK]) hsz
      have hB2 : Below G w ((wr.alloc (.cells (zeros n (.bool false)) 4)).setCell ⟨G, k, none⟩ (.slice (some ⟨G + 1 + k, 0, none⟩) n n)) := (HB.out.alloc (by omega) _).setCell (p := ⟨G, k, none⟩) (Nat.le_refl _) _
      have hS2 : ((wr.alloc (.cells (zeros n (.bool false)) 4)).setCell ⟨G, k, none⟩ (.slice (some ⟨G + 1 + k, 0, none⟩) n n)).heap.size = G + 1 + (k + 1) := by simp [World.setCell]; omega
      clear hck HG HB HS
      go_wp2_with fail
      obtain ⟨W4, hW4⟩ : ∃ W4, W4 = (wr.alloc (.cells (zeros n (.bool false)) 4)).setCell ⟨G, k, none⟩ (.slice (some ⟨G + 1 + k, 0, none⟩) n n) := ⟨_, rfl⟩
      rw [← hW4] at hG2 hB2 hS2 ⊢
      have HG2 := Lib.hid hG2
      have HB2 := Lib.hid hB2
      have HS2 := Lib.hid hS2
      clear hG2 hB2 hS2 hW4 hck2 hfk2 hsz hGl
      go_loopw [6] (fun i wr => ∃ x : Nat, x ≤ n ∧ i = .int .i64 x ∧ Hid (Grid wr 34 4 G n n (k + 1) (fun r c => .bool (sqK (sqB L Z) k x r c))) ∧ Hid (wr.heap.size = G + 1 + (k + 1)) ∧ Hid (Below G w wr)) (fun i _ => n - (intOf i).toNat)
      case atStart => exact ⟨0, by omega, rfl, HG2, HS2, HB2⟩
      case round =>
        obtain ⟨x, hx, rfl, HG3, HS3, HB3⟩ := hrel
        clear HG2 HB2 HS2
        obtain ⟨b, off, rfl, hb, hr⟩ := HR.out (by omega)
        obtain ⟨B, C, hc, hlc, hcm, hrd⟩ := hr k hlt
        have hL2 := HL.out k hlt
        have hbG : b < G := by rw [HGE.out]; exact hb
        have ch := (HB3.out.cell (p := ⟨b, off + k, none⟩) hbG).trans hc
        clear hr hc
        by_cases hxl : x < n
        · by_cases hxk : x < L k
          · obtain ⟨b2, o2, rfl, hb2, hc2⟩ := hrd (by omega)
            have cz := (HB3.out.cell (p := ⟨b2, o2 + x, none⟩) (by rw [HGE.out]; exact hb2)).trans (hc2 x hxk)
            dsimp only at cz
            have cg := HG3.out.head k (by omega) hlt
            have cl := HG3.out.cell k x (by omega) hxl
            have fl := (HG3.out.row k (by omega)).free x
            have hG6 := HG3.out.set_ (g := fun r c => .bool (sqK (sqB L Z) k (x + 1) r c)) k x (by omega) (.bool (Z k x)) (fun r' c' hr' hc' => by
              by_cases e : r' = k ∧ c' = x
              · obtain ⟨rfl, rfl⟩ := e
                simp [sqK, sqB, hxk]
              · rw [if_neg e]
                simp only [sqK]
                congr 1
                by_cases h1 : r' < k
                · simp [h1]
                · have h2 : r' = k := by omega
                  have h3 : c' ≠ x := fun h => e ⟨h2, h⟩
                  have h4 : (c' < x + 1) ↔ (c' < x) := by omega
                  simp [h4])
            obtain ⟨v, hv⟩ : ∃ v, v = Z k x := ⟨_, rfl⟩
            rw [← hv] at cz hG6
            have hx0 : (0 : Int) ≤ (x : Int) := by omega
            have hx1 : (x : Int) < (n : Int) := by omega
            have hx2 : (x : Int) < (L k : Int) := by omega
            have HG6 := Lib.hid hG6
            have HB6 := Lib.hid (HB3.out.setCell (p := ⟨G + 1 + k, x, none⟩) (by dsimp only; omega) (.bool v))
            have HS6 : Hid ((wr.setCell ⟨G + 1 + k, x, none⟩ (.bool v)).heap.size = G + 1 + (k + 1)) := Lib.hid (by simp only [World.setCell]; rw [Array.size_modify]; exact HS3.out)
            clear hc2 hrd hG6 hv HG3 HB3 HS3
            go_wp2_with fail
            go_region
            go_wp2_with fail
            go_roundw
            case rel => exact ⟨x + 1, by omega, by go_num, Lib.hid (HG6.out.mod (Mod.drewN (Mod.refl (S := fun _ => False) _) 1) (fun _ _ _ h => h)), HS6, Lib.hid (below_drewN HB6.out 1)⟩
            case measure => simp [intOf]; omega
          · have HG7 : Hid (Grid wr 34 4 G n n (k + 1) (fun r c => .bool (sqB L Z r c))) := Lib.hid (HG3.out.congr (fun r c hr hc => by
              simp only [sqK, sqB]
              by_cases h1 : r < k
              · simp [h1]
              · have h2 : r = k := by omega
                subst h2
                by_cases h3 : c < x
                · simp [h3]
                · have h4 : ¬ c < L r := by omega
                  simp [h4]))
            have hx2 : ((x : Int) < (L k : Int)) = False := by simp; omega
            have hx1 : (x : Int) < (n : Int) := by omega
            clear hrd HG3
            go_wp2_with fail
            go_roundw
            case rel => exact ⟨k + 1, by omega, by go_num, HG7, HS3, HB3⟩
            case measure => simp [intOf]; omega
        · obtain rfl : x = n := by omega
          have HG7 : Hid (Grid wr 34 4 G x x (k + 1) (fun r c => .bool (sqB L Z r c))) := Lib.hid (HG3.out.congr (fun r c hr hc => by simp [sqK, hc]))
          have hx1 : ((x : Int) < (x : Int)) = False := by simp
          clear hrd HG3
          go_wp2_with fail
          go_roundw
          case rel => exact ⟨k + 1, by omega, by go_num, HG7, HS3, HB3⟩
          case measure => simp [intOf]; omega
    · obtain rfl : k = n := by omega
      go_wp2_with fail
      go_ret
      exact ⟨G, rfl, HG, by have := HS.out; omega, by rw [HGE.out]; exact Nat.le_refl _, by rw [← HGE.out]; exact HB.out⟩
end Go.Proofs.Ytpeipolknphjhaa
