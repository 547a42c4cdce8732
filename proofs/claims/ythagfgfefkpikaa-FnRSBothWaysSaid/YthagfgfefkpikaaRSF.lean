/-
  RSField, RSElement, RSElements, RSTidy, walked. No condition beyond the bounds that each theorem states.
-/
import Derived.Test.YthagfgfefkpikaaGFO
import Derived.Deep.RegionLaw
import Derived.BigRegion
namespace Go.Proofs.Ythagfgfefkpikaa
open Go.RowKit Go.Qz Go.Qz.RS
set_option linter.unusedVariables false

/-- A field, as a value. -/
def fv (F : Fld) : Value := .agg #[.int .i64 F.prim, .int .i64 F.size, .int .i64 F.base]

set_option maxRecDepth 100000 in
set_option maxHeartbeats 1600000 in
theorem rsField (n : Int) (h0 : 0 ≤ n) (h1 : n ≤ 255) (w : World) :
    Calls Try.prog 9 #[.int .u8 n] w fun e w' => ∃ F, e = .returned (fv F) ∧ Six F ∧ Below w.heap.size w w' := by
  obtain ⟨k, hk, hk6⟩ : ∃ k : Nat, n % 6 = k ∧ k < 6 := ⟨(n % 6).toNat, by omega, by omega⟩
  rcases k with _ | _ | _ | _ | _ | _ | k
  · go_enter Try.func9, Try.ntmps9
    go_wp2_with fail
    exact bodyPost_ret (v := fv (six 0)) (by simp [results, Try.results9, go_sem, fv, six]) rfl ⟨_, rfl, ⟨0, by omega, rfl⟩, ((Below.refl _ _).alloc (Nat.le_refl _) _).alloc (by simp) _⟩
  · go_enter Try.func9, Try.ntmps9
    go_wp2_with fail
    exact bodyPost_ret (v := fv (six 1)) (by simp [results, Try.results9, go_sem, fv, six]) rfl ⟨_, rfl, ⟨1, by omega, rfl⟩, ((Below.refl _ _).alloc (Nat.le_refl _) _).alloc (by simp) _⟩
  · go_enter Try.func9, Try.ntmps9
    go_wp2_with fail
    exact bodyPost_ret (v := fv (six 2)) (by simp [results, Try.results9, go_sem, fv, six]) rfl ⟨_, rfl, ⟨2, by omega, rfl⟩, ((Below.refl _ _).alloc (Nat.le_refl _) _).alloc (by simp) _⟩
  · go_enter Try.func9, Try.ntmps9
    go_wp2_with fail
    exact bodyPost_ret (v := fv (six 3)) (by simp [results, Try.results9, go_sem, fv, six]) rfl ⟨_, rfl, ⟨3, by omega, rfl⟩, ((Below.refl _ _).alloc (Nat.le_refl _) _).alloc (by simp) _⟩
  · go_enter Try.func9, Try.ntmps9
    go_wp2_with fail
    exact bodyPost_ret (v := fv (six 4)) (by simp [results, Try.results9, go_sem, fv, six]) rfl ⟨_, rfl, ⟨4, by omega, rfl⟩, ((Below.refl _ _).alloc (Nat.le_refl _) _).alloc (by simp) _⟩
  · go_enter Try.func9, Try.ntmps9
    go_wp2_with fail
    exact bodyPost_ret (v := fv (six 5)) (by simp [results, Try.results9, go_sem, fv, six]) rfl ⟨_, rfl, ⟨5, by omega, rfl⟩, ((Below.refl _ _).alloc (Nat.le_refl _) _).alloc (by simp) _⟩
  · omega

theorem tmod_neg (n m : Int) (hm : 0 < m) (hn : n < 0) : -m < n.tmod m ∧ n.tmod m ≤ 0 ∧ n % m = if n.tmod m < 0 then n.tmod m + m else n.tmod m := by
  have h1 : n.tmod m = -((-n) % m) := by
    have := Int.tmod_eq_emod_of_nonneg (a := -n) (b := m) (by omega)
    rw [Int.neg_tmod] at this; omega
  have h2 := Int.emod_nonneg (-n) (show m ≠ 0 by omega)
  have h3 := Int.emod_lt_of_pos (-n) hm
  have h4 : n % m = (n.tmod m) % m := by
    have h5 := Int.tmod_add_mul_tdiv n m
    have h6 : n % m = (n.tmod m + m * n.tdiv m) % m := by rw [h5]
    rw [h6, Int.add_mul_emod_self_left]
  refine ⟨by omega, by omega, ?_⟩
  split
  · rename_i hlt
    rw [h4]
    have h7 : (n.tmod m + m) % m = n.tmod m % m := Int.add_emod_right _ _
    rw [← h7]
    exact Int.emod_eq_of_lt (by omega) (by omega)
  · rename_i hge
    rw [h4]
    have : n.tmod m = 0 := by omega
    rw [this]; simp

set_option maxRecDepth 100000 in
set_option maxHeartbeats 1600000 in
theorem rsElement (F : Fld) (hF : 4 ≤ F.size ∧ F.size ≤ 4096) (n : Int) (h0 : -9223372036854775808 ≤ n) (h1 : n ≤ 9223372036854775807) (w : World) :
    Calls Try.prog 10 #[fv F, .int .i64 n] w fun e w' => ∃ x : Nat, e = .returned (.int .i64 x) ∧ x = (n % (F.size : Int)).toNat ∧ x < F.size ∧ Below w.heap.size w w' := by
  have hm : (0 : Int) < (F.size : Int) := by omega
  have hE0 := Int.emod_nonneg n (show (F.size : Int) ≠ 0 by omega)
  have hE1 := Int.emod_lt_of_pos n hm
  obtain ⟨x, hx⟩ : ∃ x : Nat, (x : Int) = n % (F.size : Int) := ⟨(n % (F.size : Int)).toNat, by omega⟩
  have HX := Lib.hid hx
  have hxl : x < F.size := by omega
  unfold fv
  by_cases hn : 0 ≤ n
  · have ht : n.tmod (F.size : Int) = x := by rw [Int.tmod_eq_emod_of_nonneg hn]; exact hx.symm
    have hx2 : n % (F.size : Int) = x := hx.symm
    clear hE0 hE1 hx
    have hlo : Hid (-9223372036854775808 ≤ n) := Lib.hid h0
    have hhi : Hid (n ≤ 9223372036854775807) := Lib.hid h1
    clear h0 h1
    go_enter Try.func10, Try.ntmps10
    go_wp2_with fail
    go_ret
    exact ⟨x, rfl, by have := HX.out; omega, hxl, (Below.refl _ _).alloc (Nat.le_refl _) _⟩
  · obtain ⟨t0, t1, t2⟩ := tmod_neg n (F.size : Int) hm (by omega)
    rw [← hx] at t2
    clear hx hE0 hE1 h0 h1 hn
    obtain ⟨q, hq⟩ : ∃ q : Int, n.tmod (F.size : Int) = q := ⟨_, rfl⟩
    rw [hq] at t0 t1 t2
    by_cases hq0 : q < 0
    · rw [if_pos hq0] at t2
      have T := Lib.hid t2
      clear t2
      go_enter Try.func10, Try.ntmps10
      go_wp2_with fail
      go_ret
      exact ⟨x, by rw [T.out]; rfl, by have := HX.out; omega, hxl, (Below.refl _ _).alloc (Nat.le_refl _) _⟩
    · rw [if_neg hq0] at t2
      have T := Lib.hid t2
      clear t2
      go_enter Try.func10, Try.ntmps10
      go_wp2_with fail
      go_ret
      exact ⟨x, by rw [T.out]; rfl, by have := HX.out; omega, hxl, (Below.refl _ _).alloc (Nat.le_refl _) _⟩

/-- Numbers as elements, at most so many. -/
def elems (F : Fld) (z : Nat → Int) (k : Nat) : List Nat := (List.range k).map fun j => (z j % (F.size : Int)).toNat
theorem elems_succ (F : Fld) (z : Nat → Int) (k : Nat) : elems F z (k + 1) = elems F z k ++ [(z k % (F.size : Int)).toNat] := by simp [elems, List.range_succ]
theorem elems_length (F : Fld) (z : Nat → Int) (k : Nat) : (elems F z k).length = k := by simp [elems]
theorem elems_lt (F : Fld) (h : 4 ≤ F.size) (z : Nat → Int) (k : Nat) : ∀ x ∈ elems F z k, x < F.size := by
  intro x hx
  obtain ⟨j, _, rfl⟩ := List.mem_map.1 hx
  have := Int.emod_lt_of_pos (z j) (show (0 : Int) < (F.size : Int) by omega)
  have := Int.emod_nonneg (z j) (show (F.size : Int) ≠ 0 by omega)
  omega

set_option maxRecDepth 100000 in
set_option maxHeartbeats 1600000 in
theorem rsElements (F : Fld) (hF : 4 ≤ F.size ∧ F.size ≤ 4096) (z : Nat → Int) (A : Option Addr) (n c m : Nat) (M : Int) (hM : M = m) (hm : m ≤ 1000) (w : World) (hn : n < 4294967296) (hz : ∀ j, j < n → -9223372036854775808 ≤ z j ∧ z j ≤ 9223372036854775807) (h : Rd w A n (fun j => .int .i64 (z j))) :
    Calls Try.prog 14 #[fv F, .slice A n c, .int .i64 M] w fun e w' => ∃ v, e = .returned v ∧ w'.ownsRow w.heap.size 3 1 v (min n m) ((elems F z (min n m)).map fun x : Nat => Value.int .i64 (x : Int)) ∧ Below w.heap.size w w' := by
  subst hM
  have HZ := Lib.hid hz
  clear hz
  have hb0 : Below w.heap.size w (w.alloc (.cells #[.int .i64 F.prim, .int .i64 F.size, .int .i64 F.base] 23)) := (Below.refl _ _).alloc (Nat.le_refl _) _
  have hAr : Arr (w.alloc (.cells #[.int .i64 F.prim, .int .i64 F.size, .int .i64 F.base] 23)) 23 w.heap.size [.int .i64 F.prim, .int .i64 F.size, .int .i64 F.base] := Arr.new _ _ _
  unfold fv
  go_enter Try.func14, Try.ntmps14
  go_wp2_with fail
  go_loopw [7, 8] (fun v i wr => ∃ k : Nat, k ≤ min n m ∧ i = .int .i64 k ∧ wr.ownsRow w.heap.size 3 1 v k ((elems F z k).map fun x : Nat => Value.int .i64 (x : Int)) ∧ Below w.heap.size w wr ∧ Arr wr 23 w.heap.size [.int .i64 F.prim, .int .i64 F.size, .int .i64 F.base]) (fun _ i _ => 1000 - (intOf i).toNat)
  case atStart => exact ⟨0, by omega, rfl, World.ownsRow_nil _ _ _ _, hb0, hAr⟩
  case round =>
    obtain ⟨k, hk, rfl, hown, hbel, hAr2⟩ := hrel
    clear hb0 hAr
    by_cases hlt : k < n ∧ k < m
    · obtain ⟨h1, h2⟩ := hlt
      obtain ⟨b, off, rfl, hb, hc⟩ := (h.below hbel) (by omega)
      have hck := hc k h1; dsimp only at hck
      have hzk := HZ.out k h1
      have a0 := hAr2.cell? 0
      have a1 := hAr2.cell? 1
      have a2 := hAr2.cell? 2
      simp only [List.getElem?_cons_zero, List.getElem?_cons_succ] at a0 a1 a2
      have HR := fun W => rsElement F hF (z k) hzk.1 hzk.2 W
      unfold fv at HR
      have HR := Lib.hid HR
      have HO := Lib.hid hown
      have HA := Lib.hid hAr2
      have HB := Lib.hid hbel
      have HH := Lib.hid h
      clear hc h hown hAr2 hbel hzk
      go_wp2_with fail
      go_region_law (first | (go_simp; go_at_call 10; refine (HR.out _).mono ?_; rintro e w1 ⟨x, rfl, hx, hxl, hb1⟩; have HX := Lib.hid hx; clear hx) | (refine step_push _ _ 29 w.heap.size 3 (.int .i64 0) 8 _ k _ (.int .i64 ((x : Nat) : Int)) rfl rfl rfl rfl Try.underlying29 Try.infoInt rfl rfl (by decide) (own_below HO.out.drew hb1) (by omega) (Nat.le_trans HB.out.size hb1.size) ?_; intro v' w2 hown2 hg2 hb2))
      all_goals
        have hbb : Below w.heap.size w w2 := (HB.out.drew.trans (hb1.mono HB.out.size)).trans hb2
        have hA3 := (HA.out.mod (Mod.drew (Mod.refl (S := fun _ => False) wr)) (fun h => h)).mod (Mod.of_below (S := fun _ => False) hb1) (fun h => h)
        have HO2 := Lib.hid hown2
        have hA4 : Hid (Arr w2 23 w.heap.size [.int .i64 F.prim, .int .i64 F.size, .int .i64 F.base]) := Lib.hid (hA3.keep (hg2.block _ hA3.lt (own_ne_arr (own_below HO.out.drew hb1) hA3 (by decide))))
        clear hown2 hg2 hA3 HR HO hck a0 a1 a2
        go_wp2_with fail
        go_roundw
        case rel => exact ⟨k + 1, by omega, by go_num, by rw [elems_succ, List.map_append, ← HX.out]; exact HO2.out, hbb, hA4.out⟩
        case measure => simp [intOf]; omega
    · have hkk : k = min n m := by omega
      have H := Lib.hid hkk; clear hkk
      obtain ⟨A', c', rfl, hc', hcm, hrd⟩ := Rd.of_own hown
      have HO := Lib.hid hown
      clear hown hrd
      by_cases h6 : k < m
      · have h7 : (n : Int) ≤ k := by omega
        go_wp2_with fail
        go_ret
        exact ⟨_, rfl, by rw [← H.out]; exact HO.out, hbel⟩
      · have h8 : decide ((k : Int) < (m : Int)) = false := by simp; omega
        go_wp2_with fail
        all_goals go_ret
        all_goals exact ⟨_, rfl, by rw [← H.out]; exact HO.out, hbel⟩

/-- The numbers behind 'from'. -/
theorem tidy_split (l : List Nat) (hl : l ≠ []) : ∃ k, k < l.length ∧ (∀ j, j < k → nth l j = 0) ∧ (k + 1 = l.length ∨ nth l k ≠ 0) ∧ tidy l = l.drop k := by
  have key : ∀ n k, l.length - k = n → k < l.length → (∀ j, j < k → nth l j = 0) → ∃ k, k < l.length ∧ (∀ j, j < k → nth l j = 0) ∧ (k + 1 = l.length ∨ nth l k ≠ 0) ∧ tidy l = l.drop k := by
    intro n
    induction n with
    | zero => intro k h1 h2 _; omega
    | succ n ih =>
      intro k h1 h2 h3
      by_cases h : k + 1 = l.length ∨ nth l k ≠ 0
      · exact ⟨k, h2, h3, h, tidy_drop l k h2 h3 h⟩
      · have h4 : k + 1 < l.length := by omega
        have h5 : nth l k = 0 := by omega
        refine ih (k + 1) (by omega) h4 (fun j hj => ?_)
        by_cases hjk : j = k
        · rw [hjk]; exact h5
        · exact h3 j (by omega)
  have : 0 < l.length := List.length_pos_iff.2 hl
  exact key _ 0 rfl this (fun j hj => by omega)

theorem rd_drop {w : World} {l : List Nat} {k : Nat} {b off : Nat} (hc : ∀ j, j < l.length → w.cell? ⟨b, off + j, none⟩ = some (.int .i64 (nth l j : Nat))) (hb : b < w.heap.size) :
    Rd w (some ⟨b, off + k, none⟩) (l.length - k) (fun j => .int .i64 (nth (l.drop k) j : Nat)) := fun h0 =>
  ⟨b, off + k, rfl, hb, fun j hj => by
    have : nth (l.drop k) j = nth l (k + j) := by unfold nth; rw [List.getD_eq_getElem?_getD, List.getElem?_drop, List.getD_eq_getElem?_getD]
    dsimp only
    rw [this, Nat.add_assoc]
    exact hc (k + j) (by omega)⟩
theorem range_nth (l : List Nat) : (List.range l.length).map (fun j => Value.int .i64 ((nth l j : Nat) : Int)) = l.map fun x : Nat => Value.int .i64 (x : Int) := by
  apply List.ext_getElem
  · simp
  · intro i h1 h2
    simp at h1
    simp [nth_eq h1]

set_option maxRecDepth 100000 in
set_option maxHeartbeats 1600000 in
theorem rsTidy (l : List Nat) (hl : l ≠ []) (hn : l.length < 4294967296) (A : Option Addr) (c : Nat) (hc : l.length ≤ c) (w : World) (h : Rd w A l.length (fun j => .int .i64 (nth l j : Nat))) :
    Calls Try.prog 18 #[.slice A l.length c] w fun e w' => ∃ v, e = .returned v ∧ w'.ownsRow w.heap.size 3 1 v (tidy l).length ((tidy l).map fun x : Nat => Value.int .i64 (x : Int)) ∧ Below w.heap.size w w' := by
  obtain ⟨k0, hk0, hz, hor, ht⟩ := tidy_split l hl
  obtain ⟨b, off, rfl, hb, hcell⟩ := h (by omega)
  dsimp only at hcell
  have HZ := Lib.hid hz
  have HT := Lib.hid ht
  have HC := Lib.hid hcell
  have HOR := Lib.hid hor
  clear hz ht hcell h hor
  go_enter Try.func18, Try.ntmps18
  go_wp2_with fail
  go_loop [3] (fun i => ∃ k : Nat, k ≤ k0 ∧ i = .int .i64 k) (fun i => l.length - (intOf i).toNat)
  case atStart => exact ⟨0, by omega, rfl⟩
  case round =>
    obtain ⟨k, hk, rfl⟩ := hrel
    have hck := HC.out k (by omega)
    by_cases hlt : k < k0
    · rw [HZ.out k hlt] at hck
      go_wp2_with fail
      go_round
      case rel => exact ⟨k + 1, by omega, by go_num⟩
      case measure => simp [intOf]; omega
    · obtain rfl : k = k0 := by omega
      have hb0 : Below w.heap.size w (w.alloc (.cells #[] 3)) := (Below.refl _ _).alloc (Nat.le_refl _) _
      have hown := World.ownsRow_lit (e := 3) (size := 1) w #[] 0 (Nat.le_refl w.heap.size) (by unfold maxLen; omega) rfl
      have hrd := (rd_drop (k := k) HC.out hb).alloc (.cells #[] 3)
      have hle : (l.drop k).length = l.length - k := by simp
      have hrn := range_nth (l.drop k)
      rw [hle] at hrn
      have HRN := Lib.hid hrn
      have HLE := Lib.hid hle
      clear hrn hle
      by_cases he : k + 1 = l.length
      · have hg : ¬ ((k : Int) < (l.length : Int) - 1) := by omega
        have HE := Lib.hid he
        clear he
        go_wp2_with (at_builtin; refine wpList_copyTo _ _ 29 w.heap.size 3 (.int .i64 0) 8 _ 0 [] _ _ _ _ rfl rfl rfl rfl Try.underlying29 Try.infoInt rfl (fun j _ => rfl) (by decide) hown hrd (by omega) hb0.size ?_)
        intro v' w' hown' hg' hb'
        rw [HRN.out] at hown'
        have HO := Lib.hid hown'
        clear hown' hown hrd hck
        go_wp2_with fail
        go_ret
        exact ⟨_, rfl, by rw [HT.out, HLE.out]; exact HO.out, hb0.trans hb'⟩
      · have hnz : nth l k ≠ 0 := by have := HOR.out; omega
        have hg0 : (k : Int) < (l.length : Int) - 1 := by omega
        have hg : (((nth l k : Nat) : Int) == 0) = false := by simpa using (by omega : ((nth l k : Nat) : Int) ≠ 0)
        go_wp2_with (at_builtin; refine wpList_copyTo _ _ 29 w.heap.size 3 (.int .i64 0) 8 _ 0 [] _ _ _ _ rfl rfl rfl rfl Try.underlying29 Try.infoInt rfl (fun j _ => rfl) (by decide) hown hrd (by omega) hb0.size ?_)
        intro v' w' hown' hg' hb'
        rw [HRN.out] at hown'
        have HO := Lib.hid hown'
        clear hown' hown hrd hck
        go_wp2_with fail
        go_ret
        exact ⟨_, rfl, by rw [HT.out, HLE.out]; exact HO.out, hb0.trans hb'⟩

end Go.Proofs.Ythagfgfefkpikaa
