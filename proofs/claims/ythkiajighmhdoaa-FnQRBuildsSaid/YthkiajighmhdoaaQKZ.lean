/-
  MatrixUtil_buildMatrix, walked. No condition beyond the bounds that each theorem states.
-/
import Derived.Test.YthkiajighmhdoaaQKY
namespace Go.Proofs.Ythkiajighmhdoaa
open Go.RowKit Go.Qz Go.Qz.QK Go.Qz.QW Go.Qz.QB
set_option linter.unusedVariables false

variable {w w' : World} {M B n : Nat} {g g' : G}
theorem gvB_six (v r : Nat) : gvB v r 6 = true := by
  unfold gvB
  rw [decide_eq_true_eq]
  unfold giv; omega
theorem base_free (v x y r c : Nat) (h1 : 1 ≤ v) (h2 : v ≤ 40) (hr : r < dimOf v) (hc : c < dimOf v) : base v x y r c = -1 ↔ gvB v r c = false := by
  rw [base_eq v x y r c h1 h2 hr hc]
  unfold gvB
  rw [decide_eq_false_iff_not]
  constructor
  · intro h hg
    rw [if_pos hg] at h
    split at h <;> omega
  · intro h; rw [if_neg h]
def BldPost (M B v d sz m : Nat) (z : Nat → Bool) (w : World) (e : Ending) (w' : World) : Prop :=
  DatPost M B (dimOf v) sz (roomOf v) (fl (dimOf v) (gvB v) (base v (fb d) (vb v)) (vM m sz z) ((dimOf v - 1) * dimOf v)) w e w'
set_option maxRecDepth 100000 in
set_option maxHeartbeats 6400000 in
theorem build (v l m d sz pv p k : Nat) (z : Nat → Bool) (hd : d = l * 8 + m) (hl : l < 4) (hm : m < 8) (h1 : 1 ≤ v) (h2 : v ≤ 40) (hsz : sz ≤ 2147483647) (hpv : pv < B) (hpk : M < p ∧ M < k) (hrm : roomOf v < 100000)
    (hc : w.cell? ⟨pv, 0, none⟩ = some (.int .i64 v)) (h : MG w M B (dimOf v) g) (hb : BitsA w p k sz z) :
    Calls Try.prog 32 #[.pointer (some ⟨p, 0, none⟩), .int .i64 l, .pointer (some ⟨pv, 0, none⟩), .int .i64 m, .pointer (some ⟨M, 0, none⟩)] w (BldPost M B v d sz m z w) := by
  have hn200 : dimOf v ≤ 200 := by unfold dimOf; omega
  have hn21 : 21 ≤ dimOf v := by unfold dimOf; omega
  have ho : dimOf v % 2 = 1 := by unfold dimOf; omega
  have hq := eqlW
  have HX := Lib.hid (And.intro hd (And.intro hl (And.intro hm (And.intro h1 (And.intro h2 (And.intro hpv (And.intro hpk hrm)))))))
  have HN := Lib.hid (And.intro hn200 (And.intro hn21 ho))
  have HSZ := Lib.hid hsz
  have HC := Lib.hid hc
  have HB := Lib.hid hb
  have HBS := Lib.hid (fun r c hr hc => base_free v (fb d) (vb v) r c h1 h2 hr hc)
  have HRM := Lib.hid (way_len v h1 h2)
  have HCL : Hid (Calls Try.prog 67 #[.pointer (some ⟨M, 0, none⟩)] w (Emb0 M B (dimOf v) f0 w)) := Lib.hid (by
    have C := Lib.hid (mClear (-1) (by omega) h)
    clear hc hb h
    go_enter Try.func67, Try.ntmps67
    go_wp2_with fail
    refine C.out.mono ?_
    rintro e w1 ⟨rfl, H1, M1⟩
    go_wp2_with fail
    go_end0
    exact ⟨rfl, H1, M1⟩)
  have HNS : Hid (¬ MatS B M pv ∧ ¬ MatS B M p ∧ ¬ MatS B M k) := Lib.hid (by unfold MatS; omega)
  clear hd hl hm h1 h2 hsz hpv hpk hrm hc h hb hn200 hn21 ho
  go_enter Try.func32, Try.ntmps32
  go_wp2_with fail
  refine HCL.out.mono ?_
  rintro e w1 ⟨rfl, H1, M1⟩
  have C2 := Lib.hid (embBasic v pv (manyOf v) (cenOf v) rfl rfl HX.out.2.2.2.1 HX.out.2.2.2.2.1 rfl HX.out.2.2.2.2.2.1 (mod_cell M1.out HNS.out.1 HC.out) H1.out)
  clear HCL H1
  go_wp2_with fail
  refine C2.out.mono ?_
  rintro e w2 ⟨rfl, H2, M2'⟩
  have M2 := Lib.hid (M1.out.trans M2'.out)
  have C3 := Lib.hid (embType l m d HX.out.1 HX.out.2.1 HX.out.2.2.1 HN.out.2.1 (by have := HN.out.1; omega) H2.out)
  clear C2 H2 M1 M2'
  go_wp2_with fail
  refine C3.out.mono ?_
  rintro e w3 ⟨rfl, H3, M3'⟩
  have M3 := Lib.hid (M2.out.trans M3'.out)
  have C4 := Lib.hid (embVer v pv HX.out.2.2.2.1 HX.out.2.2.2.2.1 rfl HX.out.2.2.2.2.2.1 (mod_cell M3.out HNS.out.1 HC.out) H3.out)
  clear C3 H3 M2 M3'
  go_wp2_with fail
  refine C4.out.mono ?_
  rintro e w4 ⟨rfl, H4, M4'⟩
  have M4 := Lib.hid (M3.out.trans M4'.out)
  have H4 : Hid (MG w4 M B (dimOf v) (base v (fb d) (vb v))) := H4
  have C5 := Lib.hid (embData m sz p k (roomOf v) z (gvB v) (base v (fb d) (vb v)) HX.out.2.2.1 HSZ.out HN.out.2.2 HN.out.2.1 HN.out.1 HNS.out.2 HBS.out HRM.out HX.out.2.2.2.2.2.2.2 H4.out (HB.out.mod M4.out HNS.out.2.1 HNS.out.2.2))
  clear C4 H4 M3 M4'
  go_wp2_with fail
  refine C5.out.mono ?_
  rintro e w5 (⟨hfit, rfl, H5, M5'⟩ | ⟨hfit, x, rfl, hx, M5'⟩)
  · have M5 := Lib.hid (M4.out.trans M5'.out)
    go_wp2_with fail
    go_ret
    exact .inl ⟨hfit, rfl, H5, M5⟩
  · have M5 := Lib.hid (M4.out.trans M5'.out)
    go_wp2_with fail
    go_ret
    exact .inr ⟨hfit, x, rfl, hx, M5⟩
end Go.Proofs.Ythkiajighmhdoaa
