/-
  NewVersion and what it calls, walked. No condition beyond the bounds that each theorem states.
-/
import Derived.Test.YthkiajighmhdoaaBase
import Derived.Test.YthkiajighmhdoaaRows
import Derived.WideLaws
import Derived.Deep.RegionHeld3
import Derived.Deep.DeepCutAuto
namespace Go.Proofs.Ythkiajighmhdoaa
open Go.RowKit Go.Qz
set_option linter.unusedVariables false

set_option maxRecDepth 100000 in
theorem ecbCount (a d : Int) (w : World) :
    Calls Try.prog 112 #[.agg #[.int .i64 a, .int .i64 d]] w fun e w' => e = .returned (.int .i64 a) ∧ Below w.heap.size w w' := by
  go_enter Try.func112, Try.ntmps112
  go_wp2_with fail
  go_ret
  exact ⟨rfl, (Below.refl _ _).alloc (Nat.le_refl _) _⟩
set_option maxRecDepth 100000 in
theorem ecbData (a d : Int) (w : World) :
    Calls Try.prog 113 #[.agg #[.int .i64 a, .int .i64 d]] w fun e w' => e = .returned (.int .i64 d) ∧ Below w.heap.size w w' := by
  go_enter Try.func113, Try.ntmps113
  go_wp2_with fail
  go_ret
  exact ⟨rfl, (Below.refl _ _).alloc (Nat.le_refl _) _⟩
set_option maxRecDepth 100000 in
theorem ecsWords (p o : Nat) (ec : Int) (w : World) (h : w.cell? ⟨p, o, none⟩ = some (.int .i64 ec)) :
    Calls Try.prog 110 #[.pointer (some ⟨p, o, none⟩)] w fun e w' => e = .returned (.int .i64 ec) ∧ w = w' := by
  go_enter Try.func110, Try.ntmps110
  go_wp2_with fail
  go_ret
  exact ⟨rfl, rfl⟩
set_option maxRecDepth 100000 in
theorem ecsBlocks (p o b n c : Nat) (w : World) (h : w.cell? ⟨p, o + 1, none⟩ = some (.slice (some ⟨b, 0, none⟩) n c)) :
    Calls Try.prog 111 #[.pointer (some ⟨p, o, none⟩)] w fun e w' => e = .returned (.slice (some ⟨b, 0, none⟩) n c) ∧ w = w' := by
  go_enter Try.func111, Try.ntmps111
  go_wp2_with fail
  go_ret
  exact ⟨rfl, rfl⟩
set_option maxRecDepth 100000 in
theorem versionNumber (p : Nat) (v : Int) (w : World) (h : w.cell? ⟨p, 0, none⟩ = some (.int .i64 v)) :
    Calls Try.prog 81 #[.pointer (some ⟨p, 0, none⟩)] w fun e w' => e = .returned (.int .i64 v) ∧ w = w' := by
  go_enter Try.func81, Try.ntmps81
  go_wp2_with fail
  go_ret
  exact ⟨rfl, rfl⟩

/-- The words of the first groups of blocks. -/
def tot (ec : Nat) (a d : Nat → Nat) : Nat → Nat
  | 0 => 0
  | k + 1 => tot ec a d k + a k * (d k + ec)
theorem tot_le {ec : Nat} {a d : Nat → Nat} (h1 : ec ≤ 100) (h2 : ∀ j, a j ≤ 100) (h3 : ∀ j, d j ≤ 200) : ∀ k, tot ec a d k ≤ 30000 * k
  | 0 => by simp [tot]
  | k + 1 => by
    have := tot_le h1 h2 h3 k
    have h4 : a k * (d k + ec) ≤ 100 * 300 := Nat.mul_le_mul (h2 k) (by have := h3 k; omega)
    simp only [tot]; omega

set_option maxRecDepth 100000 in
set_option maxHeartbeats 3200000 in
theorem newVersion (num : Int) (A : Option Addr) (cn cc bb nb eb n ec : Nat) (a d : Nat → Nat) (w : World) (hn : n ≤ 4) (hec : ec ≤ 100) (ha : ∀ j, a j ≤ 100) (hd : ∀ j, d j ≤ 200) (hnb : 0 < nb) (hbb : bb < w.heap.size) (heb : eb < w.heap.size)
    (h0 : w.cell? ⟨bb, 0, none⟩ = some (.int .i64 ec)) (h1 : w.cell? ⟨bb, 1, none⟩ = some (.slice (some ⟨eb, 0, none⟩) n n))
    (hl : ∀ j, j < n → w.cell? ⟨eb, j * 2, none⟩ = some (.int .i64 (a j)) ∧ w.cell? ⟨eb, j * 2 + 1, none⟩ = some (.int .i64 (d j))) :
    Calls Try.prog 79 #[.int .i64 num, .slice A cn cc, .slice (some ⟨bb, 0, none⟩) nb nb] w fun e w' => ∃ p, e = .returned (.pointer (some ⟨p, 0, none⟩)) ∧
      Arr w' 117 p [.int .i64 num, .slice A cn cc, .slice (some ⟨bb, 0, none⟩) nb nb, .int .i64 (tot ec a d n : Nat)] ∧ Below w.heap.size w w' ∧ w.heap.size ≤ p := by
  have hnb1 : (0 : Int) < (nb : Int) := by omega
  have HL := Lib.hid hl
  have HT := Lib.hid (tot_le hec ha hd)
  have HA := Lib.hid ha
  have HD := Lib.hid hd
  have H0 := Lib.hid h0
  have H1 := Lib.hid h1
  have hz : Hid (tot ec a d 0 = 0) := Lib.hid rfl
  clear hl ha hd
  go_enter Try.func79, Try.ntmps79
  go_wp2_with fail
  refine (ecsWords bb 0 ec w H0.out).mono ?_
  rintro e w1 ⟨rfl, rfl⟩
  go_wp2_with fail
  refine (ecsBlocks bb 0 eb n n w H1.out).mono ?_
  rintro e w1 ⟨rfl, rfl⟩
  go_wp2_with fail
  go_loopw [7, 20] (fun t i wr => ∃ k T : Nat, k ≤ n ∧ i = .int .i64 k ∧ t = .int .i64 T ∧ Hid (tot ec a d k = T) ∧ Below w.heap.size w wr) (fun _ i _ => n - (intOf i).toNat)
  case atStart => exact ⟨0, 0, by omega, rfl, rfl, hz, Below.refl _ _⟩
  case round =>
    obtain ⟨k, T, hk, rfl, rfl, HK, hbel⟩ := hrel
    clear hz
    by_cases hlt : k < n
    · obtain ⟨c0, c1⟩ := HL.out k hlt
      have d0 := (hbel.cell (p := ⟨eb, k * 2, none⟩) heb).trans c0
      have d1 := (hbel.cell (p := ⟨eb, k * 2 + 1, none⟩) heb).trans c1
      have hT := HT.out k
      rw [HK.out] at hT
      have hak := HA.out k
      have hdk := HD.out k
      obtain ⟨x, hx⟩ : ∃ x, x = a k := ⟨_, rfl⟩
      obtain ⟨y, hy⟩ : ∃ y, y = d k := ⟨_, rfl⟩
      rw [← hx] at d0 hak
      rw [← hy] at d1 hdk
      obtain ⟨m, hm⟩ : ∃ m, m = x * (y + ec) := ⟨_, rfl⟩
      have em : (x : Int) * ((y : Int) + (ec : Int)) = (m : Int) := by rw [hm]; simp
      have hml : m ≤ 100 * 300 := by rw [hm]; exact Nat.mul_le_mul hak (by omega)
      have hw1 : IntKind.i64.wrap ((y : Int) + (ec : Int)) = (y : Int) + (ec : Int) := by rw [IntKind.wrap_i64]; omega
      have hw2 : IntKind.i64.wrap (m : Int) = (m : Int) := by rw [IntKind.wrap_i64]; omega
      have hw3 : IntKind.i64.wrap ((T : Int) + (m : Int)) = (T : Int) + (m : Int) := by rw [IntKind.wrap_i64]; omega
      have HN : Hid (tot ec a d (k + 1) = T + m) := Lib.hid (by simp only [tot]; rw [HK.out, ← hx, ← hy, ← hm])
      have hk0 : (0 : Int) ≤ (k : Int) := by omega
      have hk1 : (k : Int) < (n : Int) := by omega
      have HBEL := Lib.hid hbel
      clear hx hy hm HK hbel c0 c1
      go_wp2_with fail
      have hAr : Arr (wr.alloc (.cells #[.int .i64 x, .int .i64 y] 139)) 139 wr.heap.size [.int .i64 x, .int .i64 y] := Arr.new _ _ _
      have hB1 : Below w.heap.size w (wr.alloc (.cells #[.int .i64 x, .int .i64 y] 139)) := HBEL.out.alloc HBEL.out.size _
      obtain ⟨W1, hW1⟩ : ∃ W1, W1 = wr.alloc (.cells #[.int .i64 x, .int .i64 y] 139) := ⟨_, rfl⟩
      obtain ⟨G, hG⟩ : ∃ G, G = wr.heap.size := ⟨_, rfl⟩
      rw [← hW1, ← hG] at hAr
      rw [← hW1] at hB1
      rw [← hW1, ← hG]
      clear hW1 hG
      have HAr := Lib.hid hAr
      have hS : ∀ X : World, Below W1.heap.size W1 X → (X.cell? ⟨G, 0, none⟩ = some (.int .i64 x) ∧ X.cell? ⟨G, 1, none⟩ = some (.int .i64 y) ∧ Hid (Below W1.heap.size W1 X)) := fun X hX => by
        have hA := HAr.out.below hX HAr.out.lt
        have e0 := hA.cell? 0
        have e1 := hA.cell? 1
        simp only [List.getElem?_cons_zero, List.getElem?_cons_succ] at e0 e1
        exact ⟨e0, e1, Lib.hid hX⟩
      have HX := Lib.hid (fun (X : World) (hX : X.cell? ⟨G, 0, none⟩ = some (.int .i64 x) ∧ X.cell? ⟨G, 1, none⟩ = some (.int .i64 y) ∧ Hid (Below W1.heap.size W1 X)) =>
        (ecbCount (x : Int) (y : Int) X).mono (R' := fun e w' => e = .returned (.int .i64 x) ∧ (w'.cell? ⟨G, 0, none⟩ = some (.int .i64 x) ∧ w'.cell? ⟨G, 1, none⟩ = some (.int .i64 y) ∧ Hid (Below W1.heap.size W1 w'))) (by
          rintro e w' ⟨rfl, hb2⟩
          exact ⟨rfl, hS _ (hX.2.2.out.trans (hb2.mono hX.2.2.out.size))⟩))
      have HY := Lib.hid (fun (X : World) (hX : X.cell? ⟨G, 0, none⟩ = some (.int .i64 x) ∧ X.cell? ⟨G, 1, none⟩ = some (.int .i64 y) ∧ Hid (Below W1.heap.size W1 X)) =>
        (ecbData (x : Int) (y : Int) X).mono (R' := fun e w' => e = .returned (.int .i64 y) ∧ (w'.cell? ⟨G, 0, none⟩ = some (.int .i64 x) ∧ w'.cell? ⟨G, 1, none⟩ = some (.int .i64 y) ∧ Hid (Below W1.heap.size W1 w'))) (by
          rintro e w' ⟨rfl, hb2⟩
          exact ⟨rfl, hS _ (hX.2.2.out.trans (hb2.mono hX.2.2.out.size))⟩))
      have hs0 := hS W1.drew (Below.refl _ _).drew
      have HB1 := Lib.hid hB1
      clear hS hAr hB1 d0 d1 h0 h1
      go_wp2_with fail
      go_region_held3 (fun w' => w'.cell? ⟨G, 0, none⟩ = some (.int .i64 x) ∧ w'.cell? ⟨G, 1, none⟩ = some (.int .i64 y) ∧ Hid (Below W1.heap.size W1 w'))
        (first | exact hs0 | exact hs3 | exact hs4)
        (first | (go_at_call 112; refine (HX.out _ (by assumption)).mono ?_; rintro e w3 ⟨rfl, hs3⟩) | (go_at_call 113; refine (HY.out _ (by assumption)).mono ?_; rintro e w4 ⟨rfl, hs4⟩))
      all_goals
        have HB4 := Lib.hid (HB1.out.trans ((by first | exact hs4.2.2.out | exact hs3.2.2.out : Below W1.heap.size W1 _).mono HB1.out.size))
        go_wp2_with fail
        go_roundw
        case rel => exact ⟨k + 1, T + m, by omega, by go_num, by go_num, HN, HB4.out⟩
        case measure => simp [intOf]; omega
    · obtain rfl : k = n := by omega
      have HBEL := Lib.hid hbel
      have HAR : Hid (Arr (wr.alloc (.cells #[.int .i64 num, .slice A cn cc, .slice (some ⟨bb, 0, none⟩) nb nb, .int .i64 T] 117)) 117 wr.heap.size [.int .i64 num, .slice A cn cc, .slice (some ⟨bb, 0, none⟩) nb nb, .int .i64 (tot ec a d k : Nat)]) := Lib.hid (by rw [HK.out]; exact Arr.new _ _ _)
      clear hbel
      go_wp2_with fail
      go_ret
      exact ⟨_, rfl, HAR.out, HBEL.out.alloc HBEL.out.size _, HBEL.out.size⟩

theorem ball {w W : World} (h : Below w.heap.size w W) (o : Obj) : Below w.heap.size w (W.alloc o) := h.alloc h.size o
/-- A version's pointer, which tells its number. -/
def VersionIs (n : Nat) (w : World) (e : Ending) (w' : World) : Prop := ∃ p, e = .returned (.pointer (some ⟨p, 0, none⟩)) ∧ w'.cell? ⟨p, 0, none⟩ = some (.int .i64 n) ∧ Below w.heap.size w w'
theorem VersionIs.mk {n p : Nat} {w w' : World} {vs : List Value} {t : TypeId} (hA : Arr w' t p (.int .i64 n :: vs)) (hb : Below w.heap.size w w') : VersionIs n w (.returned (.pointer (some ⟨p, 0, none⟩))) w' :=
  ⟨p, rfl, by have := hA.cell? 0; simpa using this, hb⟩
end Go.Proofs.Ythkiajighmhdoaa
