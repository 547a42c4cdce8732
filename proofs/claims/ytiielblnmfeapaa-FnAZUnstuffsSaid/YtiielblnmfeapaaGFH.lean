/-
  What is left by the generator, put behind the data, makes the whole zero at each root (plain). No program in sight.
-/
import Derived.Test.YtiielblnmfeapaaGFE
import Derived.Test.YtiielblnmfeapaaGFV
namespace Go.Qz.RS
open Go.Qz
set_option linter.unusedVariables false

theorem co_shift (l : List Nat) (k n : Nat) : co (l ++ List.replicate k 0) n = if k ≤ n then co l (n - k) else 0 := by
  rw [co_append, List.length_replicate]
  by_cases h : n < k
  · rw [if_pos h, if_neg (by omega), co_zeros]
  · rw [if_neg h, if_pos (by omega)]
theorem shifted_prod {F : Fld} (h : Six F) {b : List Nat} (hb : El F b) (hbn : b ≠ []) {c : Nat} (hc : c < F.size) (k : Nat) : tidy (prod F b [c] ++ List.replicate k 0) = shfL F b k c := by
  have hce : El F [c] := fun j => by
    have := h.bounds
    rw [nth_cons]; split
    · exact hc
    · rw [nth_past (by simp)]; omega
  refine co_ext (tidy_tidy _) (shfL_tidy _ _ _ _) (tidy_ne _ (by simp [prod_ne hbn (show ([c] : List Nat) ≠ [] by simp)])) (shfL_ne hbn k c) fun n => ?_
  rw [co_tidy, co_shift, co_shfL h hb]
  unfold shf
  split
  · rw [co_prod h hb hce hbn (by simp)]
    have e : (co [c]) = mon 0 c := funext fun i => by
      rw [co_cons]; unfold mon
      by_cases hi : i = 0
      · simp [hi]
      · simp [hi]; exact co_past (by simp)
    rw [e]
    have hm : ∀ i, mon 0 c i < F.size := mon_lt h 0 hc
    show xs (fun i => mul F (co b i) (mon 0 c (n - k - i))) (n - k + 1) = _
    rw [xs_one (k := n - k) (by omega) (fun i hi hne => by
      unfold mon; rw [if_neg (by omega)]; exact mul_zero h (co_lt hb _))]
    unfold mon
    rw [if_pos (by omega)]
  · rfl
theorem shifted_data {F : Fld} (h : Six F) {d : List Nat} (hd : El F d) (hdn : d ≠ []) (ec : Nat) : tidy (d ++ List.replicate ec 0) = shfL F (tidy d) ec 1 := by
  refine co_ext (tidy_tidy _) (shfL_tidy _ _ _ _) (tidy_ne _ (by simp [hdn])) (shfL_ne (tidy_ne _ hdn) ec 1) fun n => ?_
  rw [co_tidy, co_shift, co_shfL h hd.tidy]
  unfold shf
  split
  · rw [co_tidy, mul_one h (co_lt hd _)]
  · rfl
theorem inv_one {F : Fld} (h : Six F) : inv F 1 = 1 := inv_uniq h (by have := h.bounds; omega) (by have := h.bounds; omega) (by omega) (mul_one h (by have := h.bounds; omega))
theorem gen_head {F : Fld} (h : Six F) (d : Nat) : nth (gen F d) 0 = 1 := by
  obtain ⟨h1, h2⟩ := gen_top h d
  unfold co at h2
  rw [if_pos (by omega), h1, show d + 1 - 1 - d = 0 by omega] at h2
  exact h2
theorem scale_gen {F : Fld} (h : Six F) (d : Nat) {r : List Nat} (hr : El F r) : scale F (gen F d) r = nth r 0 := by
  unfold scale
  rw [gen_head h, inv_one h, mul_one h (hr 0)]
/-- The rest behind the data. -/
theorem rest_coded {F : Fld} (h : Six F) {data q r : List Nat} {ec : Nat} (hd : El F data) (hdn : data ≠ []) (v : Dv F (tidy (data ++ List.replicate ec 0)) (gen F ec) q r) (hrl : r.length ≤ ec) :
    ∀ i, i < ec → ev F (coded data r ec) (ex F (i + F.base)) = 0 := fun i hi =>
  coded_root h hd hdn v.qe v.re v.qn hrl (by rw [← shifted_data h hd hdn]; exact v.law h (tidy_tidy _) (tidy_ne _ (by simp [hdn])) (gen_ne F ec) (gen_el h ec)) i hi
theorem coded_length {data r : List Nat} {ec : Nat} (hr : r.length ≤ ec) : (coded data r ec).length = data.length + ec := by
  unfold coded
  simp; omega
theorem coded_el {F : Fld} (h : Six F) {data r : List Nat} {ec : Nat} (hd : El F data) (hr : El F r) : El F (coded data r ec) := fun j => by
  have := h.bounds
  unfold coded
  rw [nth_append]
  split
  · rw [nth_append]
    split
    · exact hd _
    · rw [nth_replicate]; split <;> omega
  · exact hr _
end Go.Qz.RS
