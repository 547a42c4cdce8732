/-
  Plain facts on Euclid's algorithm over lists: what it keeps, step by step. No program in sight.
-/
import Derived.Test.YthagfgfefkpikaaGFT
namespace Go.Qz.RS
open Go.Qz
set_option linter.unusedVariables false
variable {F : Fld} {h : Six F}

/-- A list as a series. -/
def sr (l : List Nat) : Ser F h := ⟨fun n => if co l n < F.size then co l n else 0, fun n => by
  have := h.bounds
  show (if _ then _ else _) < _
  split <;> omega⟩
theorem sr_c {l : List Nat} (hl : El F l) (n : Nat) : (sr l : Ser F h).c n = co l n := by
  show (if co l n < F.size then co l n else 0) = _
  rw [if_pos (co_lt hl n)]
theorem sr_deg {l : List Nat} (hl : El F l) : Deg (sr l : Ser F h) l.length := fun i hi => by rw [sr_c hl, co_past hi]
theorem el_one (h : Six F) : El F [1] := gen_el h 0
theorem el_zero (h : Six F) : El F [0] := fun j => by
  have := h.bounds
  rcases j with _ | j
  · show 0 < F.size; omega
  · show 0 < F.size; omega
theorem sr_one : (sr [1] : Ser F h) = on := Ser.same fun n => by
  rw [sr_c (el_one h), on_c, co_cons]
  rcases n with _ | n
  · rfl
  · rw [if_neg (by simp), co_past (by simp), if_neg (by omega)]
theorem sr_zero : (sr [0] : Ser F h) = zr := Ser.same fun n => by
  rw [sr_c (el_zero h)]
  exact co_zeros 1 n
theorem sr_mon (M : Nat) : (sr (monL M 1) : Ser F h) = xp M := Ser.same fun n => by
  rw [sr_c (monL_el h M (by have := h.bounds; omega)), co_monL]; rfl
theorem sr_plus {a b : List Nat} (ha : El F a) (hb : El F b) : (sr (plus a b) : Ser F h) = sr a + sr b := Ser.same fun n => by
  rw [sr_c (plus_el h ha hb), co_plus, add_c, sr_c ha, sr_c hb]
theorem sr_prod {a b : List Nat} (ha : El F a) (hb : El F b) (han : a ≠ []) (hbn : b ≠ []) : (sr (prod F a b) : Ser F h) = sr a * sr b := Ser.same fun n => by
  rw [sr_c (prod_el h ha hb), co_prod h ha hb han hbn, mul_c]
  exact xs_congr fun i _ => by
    show mul F (co a i) (co b (n - i)) = mul F ((sr a : Ser F h).c i) ((sr b : Ser F h).c (n - i))
    rw [sr_c ha, sr_c hb]

/-- The quotient of a division is no longer than it must be. -/
theorem Dv.quot (h : Six F) {p d q r : List Nat} (v : Dv F p d q r) (hd : tidy d = d) (hdn : d ≠ []) (hde : El F d) (hd0 : d ≠ [0]) (hle : d.length ≤ p.length) (hr : r.length < d.length ∨ r = [0]) : q.length + d.length ≤ p.length + 1 := by
  have hql := List.length_pos_iff.2 v.qn
  have hdl := List.length_pos_iff.2 hdn
  by_cases hq0 : q = [0]
  · rw [hq0]; show 1 + d.length ≤ _; omega
  · have e1 := co_top v.qt v.qn hq0
    have e2 := co_top hd hdn hd0
    have e3 := v.eq (q.length - 1 + (d.length - 1))
    have er : co r (q.length - 1 + (d.length - 1)) = 0 := by
      rcases hr with h1 | h1
      · exact co_past (by omega)
      · rw [h1]; exact co_zeros 1 _
    rw [er, Nat.xor_zero] at e3
    have e4 : pm F (co q) (co d) (q.length - 1 + (d.length - 1)) = mul F (co q (q.length - 1)) (co d (d.length - 1)) := by
      unfold pm
      rw [xs_one (k := q.length - 1) (by omega) (fun i hi hne => by
        show mul F (co q i) (co d (q.length - 1 + (d.length - 1) - i)) = 0
        by_cases h1 : i < q.length - 1
        · rw [co_past (l := d) (by omega), mul_zero h (co_lt v.qe i)]
        · rw [co_past (l := q) (by omega), zero_mul h])]
      show mul F (co q (q.length - 1)) (co d (q.length - 1 + (d.length - 1) - (q.length - 1))) = _
      rw [show q.length - 1 + (d.length - 1) - (q.length - 1) = d.length - 1 by omega]
    have e5 := mul_ne_zero h (co_lt v.qe _) (co_lt hde _) e1 e2
    rcases Nat.lt_or_ge (q.length - 1 + (d.length - 1)) p.length with h1 | h1
    · omega
    · rw [co_past (l := p) h1] at e3
      rw [e4] at e3
      exact absurd e3 e5

/-- What Euclid's algorithm keeps. -/
structure EuInv (S : Ser F h) (M : Nat) (rl rr tl tt : List Nat) : Prop where
  eL : El F rl
  eR : El F rr
  eT : El F tl
  eU : El F tt
  tL : tidy rl = rl
  tR : tidy rr = rr
  tT : tidy tl = tl
  tU : tidy tt = tt
  nL : rl ≠ []
  nR : rr ≠ []
  nT : tl ≠ []
  nU : tt ≠ []
  ll : rl.length ≤ M + 1
  lt : rr.length < rl.length
  b1 : tt.length + rl.length ≤ M + 2
  b2 : tl.length + rl.length ≤ M + 2
  b3 : M + 2 ≤ 2 * rl.length
  hx : ∃ (s sL : Ser F h) (n : Nat), Deg s n ∧ Deg sL n ∧ sr rr = s * xp M + sr tt * S ∧ sr rl = sL * xp M + sr tl * S ∧ s * sr tl + sL * sr tt = on
theorem monL_len (M : Nat) : (monL M 1).length = M + 1 := by simp [monL]
theorem EuInv.start {S : Ser F h} {M : Nat} (hM : 1 ≤ M) {l : List Nat} (el : El F l) (tl : tidy l = l) (nl : l ≠ []) (hl : l.length ≤ M) (hS : ∀ n, co l n = S.c n) : EuInv S M (monL M 1) l [0] [1] := by
  have e : (sr l : Ser F h) = S := Ser.same fun n => by rw [sr_c el, hS]
  refine ⟨monL_el h M (by have := h.bounds; omega), el, el_zero h, el_one h, monL_tidy M 1, tl, rfl, rfl, monL_ne M 1, nl, by simp, by simp, by rw [monL_len]; omega, by rw [monL_len]; omega, by rw [monL_len]; show 1 + _ ≤ _; omega, by rw [monL_len]; show 1 + _ ≤ _; omega, by rw [monL_len]; omega, zr, on, 1, fun _ _ => rfl, Deg.on, ?_, ?_, ?_⟩
  · rw [zr_mul, zr_sadd, sr_one, on_mul, e]
  · rw [sr_mon, on_mul, sr_zero, zr_mul, sadd_zr]
  · rw [zr_mul, zr_sadd, sr_one, on_mul]
theorem EuInv.next {S : Ser F h} {M : Nat} {rl rr tl tt q r : List Nat} (I : EuInv S M rl rr tl tt) (hr2 : 2 * (rr.length - 1) ≥ M) (hM : 2 ≤ M) (v : Dv F rl rr q r) (hr : r.length < rr.length ∨ r = [0]) : EuInv S M rr r tt (plus (prod F q tt) tl) := by
  have hrr0 : rr ≠ [0] := by intro e; rw [e] at hr2; simp at hr2; omega
  have hq := v.quot h I.tR I.nR I.eR hrr0 (by have := I.lt; omega) hr
  have hp := prod_length F q tt
  have hs := plus_length (prod F q tt) tl
  have hql := List.length_pos_iff.2 v.qn
  have htl := List.length_pos_iff.2 I.nU
  have hlr := I.lt
  have hb1 := I.b1
  have hb2 := I.b2
  have hrrl := List.length_pos_iff.2 I.nR
  obtain ⟨s, sL, ns, d1, d2, i1, i2, i3⟩ := I.hx
  have e1 : (sr rl : Ser F h) = sr q * sr rr + sr r := by
    have := Dv.law h I.tL I.nL I.nR I.eR v
    rw [← this, sr_plus (prod_el h v.qe I.eR) v.re, sr_prod v.qe I.eR v.qn I.nR]
  have e2 : (sr (plus (prod F q tt) tl) : Ser F h) = sr q * sr tt + sr tl := by
    rw [sr_plus (prod_el h v.qe I.eU) I.eT, sr_prod v.qe I.eU v.qn I.nU]
  have e3 : (sr r : Ser F h) = sr q * sr rr + sr rl := by rw [e1, ← sadd_assoc, sadd_self, zr_sadd]
  refine ⟨I.eR, v.re, I.eU, plus_el h (prod_el h v.qe I.eU) I.eT, I.tR, v.rt, I.tU, plus_tidy _ _, I.nR, v.rn, I.nU, plus_ne (.inr I.nT), by have := I.ll; omega, ?_, by omega, by omega, by omega, sr q * s + sL, s, q.length + ns, Deg.add (((sr_deg v.qe).mul d1).mono (by omega)) (d2.mono (by omega)), d1.mono (by omega), ?_, i1, ?_⟩
  · rcases hr with h1 | h1
    · exact h1
    · rw [h1]; show 1 < rr.length; omega
  · rw [e3, e2, i1, i2, smul_add, sadd_mul, sadd_mul, smul_assoc, smul_assoc, sadd_assoc, sadd_assoc]
    congr 1
    rw [← sadd_assoc, ← sadd_assoc, sadd_comm (sr q * (sr tt * S))]
  · rw [e2, sadd_mul, smul_add, smul_assoc, smul_left_comm (sr q), ← i3]
    rw [sadd_comm (s * (sr q * sr tt)), ← sadd_assoc]
    rw [sadd_assoc (sL * sr tt), sadd_self, sadd_zr, sadd_comm]
/-- What is left at the end. -/
theorem EuInv.final {Y : Nat → Nat} {hY : ∀ j, Y j < F.size} {b : Nat} (hY0 : ∀ j, Y j ≠ 0) {J : List Nat} (nd : J.Nodup) (hJ : ∀ j ∈ J, j < F.size - 1) (hJb : ∀ j ∈ J, ex F (j * b) ≠ 0) {M : Nat} (hν : 2 * J.length ≤ M)
    {S : Ser F h} (hS : ∀ i, i < M → S.c i = (syn Y hY b J : Ser F h).c i) (dS : Deg S M) {rl rr tl tt : List Nat} (I : EuInv S M rl rr tl tt) (hend : 2 * (rr.length - 1) < M) :
    ∃ k, k < F.size ∧ k ≠ 0 ∧ (∀ i, co tt i = mul F ((loc J : Ser F h).c i) k) ∧ (∀ i, co rr i = mul F ((evl Y hY b J : Ser F h).c i) k) := by
  obtain ⟨s, sL, ns, d1, d2, i1, i2, i3⟩ := I.hx
  have hrl := List.length_pos_iff.2 I.nR
  have b1 := I.b1
  have b3 := I.b3
  obtain ⟨k, k1, k2, k3, k4⟩ := euclid_end hY0 nd hJ hJb hν S (sr tt) (sr rr) s (sr tl) sL hS dS i1 i3 (sr_deg I.eR) (sr_deg I.eU) (sr_deg I.eT) d2 (by omega) (by omega)
  exact ⟨k, k1, k2, fun i => by rw [← k3, sr_c I.eU], fun i => by rw [← k4, sr_c I.eR]⟩
end Go.Qz.RS
