/-
  A picture of modules: ODWider, walked. No condition beyond the bounds that each theorem states.
-/
import Derived.Test.YtfnfikmijkeimaaRDE
import Derived.BigQuiet
namespace Go.Proofs.Ytfnfikmijkeimaa
open Go.RowKit Go.Qz
set_option linter.unusedVariables false

/-- A row of modules, each so wide, with light pixels ahead and behind. -/
def wf (z : Nat → Bool) (B left n x : Nat) : Bool := decide (left ≤ x ∧ x < left + B * n) && z ((x - left) / B)
theorem wf_at {z : Nat → Bool} {B left n k t : Nat} (hk : k < n) (ht : t < B) : wf z B left n (left + B * k + t) = z k := by
  unfold wf
  have h1 : B * (k + 1) ≤ B * n := Nat.mul_le_mul_left _ hk
  rw [Nat.mul_add, Nat.mul_one] at h1
  rw [decide_eq_true (by omega), Bool.true_and]
  congr 1
  rw [show left + B * k + t - left = t + B * k from by omega, Nat.add_mul_div_left _ _ (by omega), Nat.div_eq_of_lt ht, Nat.zero_add]
theorem wf_lo {z : Nat → Bool} {B left n x : Nat} (h : x < left) : wf z B left n x = false := by unfold wf; rw [decide_eq_false (by omega)]; rfl
theorem wf_hi {z : Nat → Bool} {B left n x : Nat} (h : left + B * n ≤ x) : wf z B left n x = false := by unfold wf; rw [decide_eq_false (by omega)]; rfl
def mapB (f : Nat → Bool) (m : Nat) : List Value := (List.range m).map fun x => .bool (f x)
theorem mapB_len (f : Nat → Bool) (m : Nat) : (mapB f m).length = m := by simp [mapB]
theorem mapB_succ (f : Nat → Bool) (m : Nat) : mapB f (m + 1) = mapB f m ++ [.bool (f m)] := by unfold mapB; rw [List.range_succ, List.map_append]; rfl
theorem mapB_more (f : Nat → Bool) (m k : Nat) (h : ∀ x, m ≤ x → f x = false) : mapB f (m + k) = mapB f m ++ List.replicate k (.bool false) := by
  induction k with
  | zero => simp
  | succ k ih => rw [← Nat.add_assoc, mapB_succ, ih, h _ (by omega), List.append_assoc, List.replicate_succ']
theorem mapB_zero (f : Nat → Bool) (m : Nat) (h : ∀ x, x < m → f x = false) : mapB f m = List.replicate m (.bool false) := by
  induction m with
  | zero => rfl
  | succ m ih => rw [mapB_succ, ih (fun x hx => h x (by omega)), h m (by omega), List.replicate_succ']
def WidePost (f : Nat → Bool) (N : Nat) (w : World) (e : Ending) (w' : World) : Prop := ∃ b C, e = .returned (.slice (some ⟨b, 0, none⟩) N C) ∧ Hid (w.heap.size ≤ b ∧ b < w'.heap.size ∧ N ≤ C ∧ ∀ c, c < N → w'.cell? ⟨b, c, none⟩ = some (.bool (f c))) ∧ Below w.heap.size w w'

set_option maxRecDepth 100000 in
set_option maxHeartbeats 6400000 in
theorem odWider (z : Nat → Bool) (n c B left right N : Nat) (hn : n ≤ 1000) (hB : B ≤ 1000) (hl : left ≤ 1000) (hr0 : 0 < right) (hr1 : right ≤ 1000) (hN : N = left + B * n + right) (A : Option Addr) (w : World) (h : Rd w A n (fun j => .bool (z j))) :
    Calls Try.prog 17 #[.slice A n c, .int .i64 B, .int .i64 left, .int .i64 right] w (WidePost (wf z B left n) N w) := by
  have HR := Lib.hid h
  have hmk := fun X => run_make1 (P := Try.prog) 40 4 (.bool false) 1 Try.underlying40 Try.infoBool' rfl (by decide) left (by omega) .i64 .i64 left rfl X
  have hBn : B * n ≤ 1000 * 1000 := Nat.mul_le_mul hB hn
  obtain ⟨E, hE⟩ : ∃ E, E = w.heap.size := ⟨_, rfl⟩
  obtain ⟨W0, hW0⟩ : ∃ W0, W0 = w.alloc (.cells (zeros left (.bool false)) 4) := ⟨_, rfl⟩
  have hb0 : Below w.heap.size w W0 := by rw [hW0]; exact (Below.refl _ _).alloc (Nat.le_refl _) _
  have ho0 : W0.ownsRow E 4 1 (.slice (some ⟨E, 0, none⟩) left left) left (mapB (wf z B left n) left) := by
    rw [hW0, hE, mapB_zero _ _ (fun x hx => wf_lo hx)]
    exact own_full w _ _ _ _ (Nat.le_refl _) (by unfold maxLen; omega)
  have HB0 := Lib.hid hb0
  have HO0 := Lib.hid ho0
  have HE := Lib.hid hE
  have HW0 := Lib.hid hW0
  have HNN := Lib.hid hN
  clear h hb0 ho0 hW0
  go_enter Try.func17, Try.ntmps17
  go_wp2_with fail
  rw [← hE, ← HW0.out]
  clear hE hN
  go_loopw [9, 16] (fun v i wr => ∃ k m : Nat, k ≤ n ∧ i = .int .i64 k ∧ Hid (m = left + B * k) ∧ Hid (wr.ownsRow E 4 1 v m (mapB (wf z B left n) m)) ∧ Hid (Below E w wr)) (fun _ i _ => n - (intOf i).toNat)
  case atStart => exact ⟨0, left, by omega, rfl, Lib.hid (by simp), HO0, by rw [HE.out]; exact HB0⟩
  case round =>
    obtain ⟨wo, hwo⟩ : ∃ wo, wo = wr := ⟨_, rfl⟩
    rw [← hwo] at hrel ⊢
    clear hwo
    obtain ⟨k, m, hk, rfl, HM, HO, HB⟩ := hrel
    clear HO0
    by_cases hlt : k < n
    · have hk0 : (0 : Int) ≤ (k : Int) := by omega
      have hk1 : (k : Int) < (n : Int) := by omega
      obtain ⟨rb, ro, rfl, hrb, hrc⟩ := (HR.out.below (show Below w.heap.size w wo by rw [← HE.out]; exact HB.out)) (by omega)
      have ck := hrc k hlt
      dsimp only at ck
      have hmle : m ≤ 1001000 := by
        have h1 : B * k ≤ 1000 * 1000 := Nat.mul_le_mul hB (by omega)
        have := HM.out; omega
      have HAT : Hid (∀ t, t < B → wf z B left n (m + t) = z k) := Lib.hid (fun t ht => by rw [HM.out]; exact wf_at hlt ht)
      obtain ⟨zk, hzk⟩ : ∃ zk, zk = z k := ⟨_, rfl⟩
      rw [← hzk] at ck HAT
      clear hrc hzk
      go_wp2_with fail
      go_loopw [9, 21] (fun v i wr => ∃ t : Nat, t ≤ B ∧ i = .int .i64 t ∧ Hid (wr.ownsRow E 4 1 v (m + t) (mapB (wf z B left n) (m + t))) ∧ Hid (Below E w wr)) (fun _ i _ => B - (intOf i).toNat)
      case atStart => exact ⟨0, by omega, rfl, HO, HB⟩
      case round =>
        obtain ⟨wu, hwu⟩ : ∃ wu, wu = wr := ⟨_, rfl⟩
        rw [← hwu] at hrel ⊢
        clear hwu
        obtain ⟨t, ht, rfl, HOu, HBu⟩ := hrel
        clear HO HB
        by_cases hlt2 : t < B
        · have ht1 : (t : Int) < (B : Int) := by omega
          have HSZ : Hid (E ≤ wu.heap.size) := Lib.hid (by have := HBu.out.size; have := HE.out; omega)
          have HAT2 := Lib.hid (HAT.out t hlt2)
          go_wp2_with (at_builtin; refine wpList_push _ _ 40 E 4 (.bool false) 1 _ (m + t) _ (.bool zk) rfl rfl rfl rfl Try.underlying40 Try.infoBool' rfl rfl (by decide) HOu.out (by omega) HSZ.out ?_)
          intro v' w' hown' hg' hb'
          have HO3 : Hid (w'.ownsRow E 4 1 v' (m + (t + 1)) (mapB (wf z B left n) (m + (t + 1)))) := Lib.hid (by
            rw [← Nat.add_assoc, mapB_succ, HAT2.out]; exact hown')
          have HB3 := Lib.hid (HBu.out.trans hb')
          clear hown' hg' hb' HAT2
          go_wp2_with fail
          go_roundw
          case rel => exact ⟨t + 1, by omega, by go_num, HO3, HB3⟩
          case measure => simp [intOf]; omega
        · obtain rfl : t = B := by omega
          have HM2 : Hid (m + t = left + t * (k + 1)) := Lib.hid (by rw [Nat.mul_add, Nat.mul_one]; have := HM.out; omega)
          clear HM
          go_wp2_with fail
          go_roundw
          case rel => exact ⟨k + 1, m + t, by omega, by go_num, HM2, HOu, HBu⟩
          case measure => simp [intOf]; omega
    · obtain rfl : k = n := by omega
      have hml : m ≤ 1001000 := by have := HM.out; omega
      have HSZ : Hid (E ≤ wo.heap.size) := Lib.hid (by have := HB.out.size; have := HE.out; omega)
      go_wp2_with (at_builtin; refine wpList_appendz _ _ 40 3 .i64 E 4 (.bool false) 1 _ m _ right rfl rfl rfl rfl Try.underlying40 (by kernel_rfl) Try.infoBool' rfl rfl (by decide) HO.out hr0 (by omega) HSZ.out ?_)
      intro v' w' hown' hg' hb'
      have HMN : Hid (N = m + right) := Lib.hid (by have := HM.out; have := HNN.out; omega)
      rw [← mapB_more _ _ _ (fun x hx => wf_hi (by have := HM.out; omega))] at hown'
      rw [← HMN.out] at hown'
      have HB3 := Lib.hid (HB.out.trans hb')
      obtain ⟨hl1, hl2⟩ := hown'
      rcases hl2 with ⟨_, h2⟩ | ⟨g, cap, cur, rfl, hbg, hh, hc, hm2, hz, htk⟩
      · have := HMN.out; omega
      · have HQ : Hid (w.heap.size ≤ g ∧ g < w'.heap.size ∧ N ≤ cap ∧ ∀ c, c < N → w'.cell? ⟨g, c, none⟩ = some (.bool (wf z B left k c))) := Lib.hid ⟨by rw [← HE.out]; exact hbg, (Array.getElem?_eq_some_iff.1 hh).1, hc, fun c hc => by
          rw [cell_of_row w' g c cur _ _ hh]
          have : (mapB (wf z B left k) N)[c]? = cur[c]? := by
            rw [← htk, List.getElem?_take]; simp; omega
          rw [← this]; simp [mapB, hc]⟩
        clear hl1 hbg hh hc hm2 hz htk hb' hg'
        go_wp2_with fail
        go_ret
        exact ⟨g, cap, rfl, HQ, by rw [← HE.out]; exact HB3.out⟩
end Go.Proofs.Ytfnfikmijkeimaa
