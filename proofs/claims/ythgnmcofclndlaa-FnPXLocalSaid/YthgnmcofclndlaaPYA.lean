/-
  Sources of grays of up to 200 by 200 pixels: source, GetRow, walked; methods by their names. No condition beyond the bounds that each theorem states.
-/
import Derived.Test.YthgnmcofclndlaaPMA
import Derived.Test.YthgnmcofclndlaaCPM
import Derived.Lib.SliceRun
import Derived.Deep.QuietTactic
import Derived.BigQuiet
namespace Go.Proofs.Ythgnmcofclndlaa
open Go.RowKit Go.Qz
set_option linter.unusedVariables false

set_option maxRecDepth 100000 in
set_option maxHeartbeats 800000 in
theorem fits2 (W H N : Nat) (hW : 1 ≤ W) (hH : 1 ≤ H) (hW2 : W ≤ 200) (hH2 : H ≤ 200) (hN : N = W * H) (w : World) :
    Calls Try.prog 27 #[.int .i64 W, .int .i64 H, .int .i64 N] w fun e w' => e = .returned (.bool true) ∧ w = w' := by
  have e1 : (N : Int) / (W : Int) = (H : Int) := by
    have : N / W = H := by rw [hN]; exact Nat.mul_div_cancel_left _ (by omega)
    omega
  have e2 : (N : Int).tdiv (W : Int) = (H : Int) := by rw [Int.tdiv_eq_ediv_of_nonneg (by omega)]; exact e1
  have e3 : (N : Int) % (W : Int) = 0 := by
    have : N % W = 0 := by rw [hN]; exact Nat.mul_mod_right _ _
    omega
  have e4 : (N : Int).tmod (W : Int) = 0 := by rw [Int.tmod_eq_emod_of_nonneg (by omega)]; exact e3
  have hNl : N ≤ 40000 := by rw [hN]; exact Nat.mul_le_mul hW2 hH2
  clear hN
  go_enter Try.func27, Try.ntmps27
  go_wp2_with fail
  go_ret
  exact ⟨rfl, rfl⟩
set_option maxRecDepth 100000 in
set_option maxHeartbeats 1600000 in
theorem source2 (W H N : Nat) (A : Option Addr) (c : Nat) (f : Nat → Int) (hW : 1 ≤ W) (hH : 1 ≤ H) (hW2 : W ≤ 200) (hH2 : H ≤ 200) (hN : N = W * H) (w : World) (hr : Rd w A N (fun j => .int .u8 (f j))) :
    Calls Try.prog 21 #[.int .i64 W, .int .i64 H, .slice A N c, .bool false] w (SourcePost W H N (fun j => .int .u8 (f j)) w) := by
  have HF := Lib.hid (fits2 W H N hW hH hW2 hH2 hN w)
  have hNl : N ≤ 40000 := by rw [hN]; exact Nat.mul_le_mul hW2 hH2
  have heq : ∀ X, (binOp .eql 51 .nilIface .nilIface).run Try.prog X = .ok (.bool true) X := fun X => rfl
  clear hN
  go_enter Try.func21, Try.ntmps21
  go_wp2_with fail
  refine HF.out.mono ?_
  rintro e w1 ⟨rfl, rfl⟩
  go_wp2_with (at_builtin; refine wpList_copyTo _ _ 22 w.heap.size 5 (.int .u8 0) 1 _ 0 [] _ _ _ _ rfl rfl rfl rfl Try.underlying22 Try.infoByte rfl (fun j _ => rfl) (by decide) (World.ownsRow_nil _ _ _ _) hr (by omega) (Nat.le_refl _) ?_)
  intro v' w1 hown hg hb
  obtain ⟨A', c', rfl, hnc, hcm, hrd⟩ := Rd.of_own hown
  have HR : Hid (Rd w1 A' N (fun j => .int .u8 (f j))) := Lib.hid (hrd.congr fun j hj => by
    simp [List.getD_eq_getElem?_getD, hj])
  have HB := Lib.hid hb
  clear hr hown hg hb hrd
  go_wp2_with fail
  refine (planar_ok A' N c' W H 0 0 W H (by omega) (by omega) (by omega) (by omega) w1).mono ?_
  rintro e w2 ⟨p, rfl, hs, hb2⟩
  have HS := Lib.hid hs
  have HR2 : Hid (Rd w2 A' N (fun j => .int .u8 (f j))) := Lib.hid (HR.out.below hb2)
  have HB2 := Lib.hid (HB.out.trans (hb2.mono HB.out.size))
  clear hs hb2
  go_wp2_with fail
  go_quiet (fail)
  go_wp2_with fail
  go_ret2
  exact ⟨p, A', c', rfl, HS.out, hnc, hcm, HR2, below_drewN HB2.out _⟩
/-- The grays of a row. -/
def rowY (f : Nat → Int) (W y : Nat) : List Value := (List.range W).map fun x => .int .u8 (f (y * W + x))
def RowPost (f : Nat → Int) (W y R : Nat) (w : World) (e : Ending) (w' : World) : Prop := e = .returned (.tuple #[.slice (some ⟨R, 0, none⟩) W W, .nilIface]) ∧ Arr w' 5 R (rowY f W y) ∧ Mod (· = R) w w'

set_option maxRecDepth 100000 in
set_option maxHeartbeats 1600000 in
theorem getRow2 (p R : Nat) (A : Option Addr) (N c W H y : Nat) (f : Nat → Int) (cur : List Value) (hcl : cur.length = W) (hN : N = W * H) (hNc : N ≤ c) (hcm : c ≤ maxLen) (hW : 1 ≤ W) (hW2 : W ≤ 200) (hH2 : H ≤ 200) (hy : y < H) (w : World) (hs : SrcIs w p A N c W H 0 0 W H) (hr : Rd w A N (fun j => .int .u8 (f j))) (hR : Arr w 5 R cur) :
    Calls Try.prog 58 #[.pointer (some ⟨p, 0, none⟩), .int .i64 y, .slice (some ⟨R, 0, none⟩) W W] w (RowPost f W y R w) := by
  have a0 := hs.cell? 0
  have a1 := hs.cell? 1
  have a2 := hs.cell? 2
  have a3 := hs.cell? 3
  have a4 := hs.cell? 4
  have a5 := hs.cell? 5
  have a6 := hs.cell? 6
  simp only [List.getElem?_cons_zero, List.getElem?_cons_succ] at a0 a1 a2 a3 a4 a5 a6
  have a3' : w.cell? ⟨p, 3, none⟩ = some (.int .i64 (W : Int)) := a3
  have a5' : w.cell? ⟨p, 5, none⟩ = some (.int .i64 0) := a5
  have a6' : w.cell? ⟨p, 6, none⟩ = some (.int .i64 0) := a6
  have HWW := Lib.hid (getWidth p 0 W w a0)
  have HHH := Lib.hid (getHeight p 0 H w a1)
  have g1 : ((y : Int) < 0) = False := by simp
  have g2 : ((H : Int) ≤ (y : Int)) = False := by simp; omega
  have g9 : ((W : Int) < (W : Int)) = False := by simp
  have heq : ∀ X, (binOp .eql 22 (.slice (some ⟨R, 0, none⟩) W W) (.slice none 0 0)).run Try.prog X = .ok (.bool false) X := fun X => by
    have := Lib.run_eql_slice_nil (P := Try.prog) X 22 5 (some ⟨R, 0, none⟩) W W 0 0 Try.underlying22
    simpa using this
  obtain ⟨m, hm⟩ : ∃ m, m = y * W := ⟨_, rfl⟩
  have em : (y : Int) * (W : Int) = (m : Int) := by rw [hm]; simp
  obtain ⟨hi, hhi⟩ : ∃ hi, hi = m + W := ⟨_, rfl⟩
  have eh : (m : Int) + (W : Int) = (hi : Int) := by omega
  have hyl : y ≤ 200 := by omega
  have hNl : N ≤ 40000 := by rw [hN]; exact Nat.mul_le_mul hW2 hH2
  have hhN : hi ≤ N := by
    have h5 : (y + 1) * W ≤ H * W := Nat.mul_le_mul_right _ hy
    have h6 : (y + 1) * W = m + W := by rw [Nat.add_mul, hm]; omega
    have h7 : H * W = N := by rw [hN, Nat.mul_comm]
    omega
  have hc2 : c ≤ 9223372036854775807 := by unfold maxLen at hcm; omega
  have k1 : hi ≤ c := by omega
  have k2 : m < c := by omega
  have k3 : (c = m) = False := by simp; omega
  have k4 : (hi : Int) ≤ (c : Int) := by omega
  have k5 : (m : Int) ≤ (hi : Int) := by omega
  have k6 : hi - m = W := by omega
  have k7 : (m : Int) < (c : Int) := by omega
  have w1 : IntKind.i64.wrap (y : Int) = (y : Int) := by rw [IntKind.wrap_i64]; omega
  have w2 : IntKind.i64.wrap (m : Int) = (m : Int) := by rw [IntKind.wrap_i64]; omega
  obtain ⟨b0, off, rfl, hb0, hcell⟩ := hr (by omega)
  obtain ⟨cs, hcs⟩ : ∃ cs : List Value, cs = rowY f W y := ⟨_, rfl⟩
  have HCL : Hid (cs.length = W) := Lib.hid (by rw [hcs]; simp [rowY])
  have HONE : Hid (∀ v ∈ cs, v.oneCell' = true) := Lib.hid (fun v hv => by
    rw [hcs] at hv
    obtain ⟨j, _, rfl⟩ := List.mem_map.1 hv
    rfl)
  have HCS : Hid (∀ (n j : Nat) v, cs[j]? = some v → (w.drewN n).cell? ((⟨b0, off + m, none⟩ : Addr).add j) = some v) := Lib.hid (fun n j v hj => by
    have hjl : j < W := by
      rcases Nat.lt_or_ge j W with h | h
      · exact h
      · rw [List.getElem?_eq_none (by rw [HCL.out]; exact h)] at hj; cases hj
    have hplain : (⟨b0, off + m, none⟩ : Addr).add j = ⟨b0, off + (m + j), none⟩ := by unfold Addr.add; split <;> simp_all <;> omega
    rw [hplain]
    show w.cell? _ = _
    rw [hcell (m + j) (by omega)]
    rw [hcs] at hj
    simp [rowY, hjl] at hj
    rw [hm]; exact congrArg some hj)
  have HCUR := Lib.hid hcl
  have HRR := Lib.hid hR
  have HSP : Hid (splice cur 0 cs = rowY f W y) := Lib.hid (by rw [← hcs]; simp [splice, HCL.out, hcl])
  clear hs hr a0 a1 a3 a4 a5 a6 hcell hcs hcl hR hm hhi hN hcm hy
  go_enter Try.func58, Try.ntmps58
  go_wp2_with fail
  refine HHH.out.mono ?_
  rintro e w1 ⟨rfl, rfl⟩
  go_wp2_with fail
  refine HWW.out.mono ?_
  rintro e w1 ⟨rfl, rfl⟩
  go_wp2_with fail
  go_quiet (fail)
  have HR2 : Hid (Arr (w.drewN nq) 5 R cur) := HRR
  go_wp2_with (refine wpList_copy_mod rfl _ _ 22 22 rfl 5 Try.underlying22 (by kernel_rfl) _ _ _ _ _ _ rfl rfl R 0 cur 5 HR2.out cs (by rw [HCL.out]; first | exact (Nat.min_eq_left (by omega)).symm | simp) (fun _ => ⟨by first | rfl | simp, _, rfl, HCS.out _⟩) (by rw [HCL.out, HCUR.out]; simp) HONE.out ?_)
  intro w3 HG HM
  rw [HSP.out] at HG
  have HM3 : Hid (Mod (· = R) w w3) := Lib.hid ((Mod.drewN (Mod.refl (S := (· = R)) w) nq).trans HM.out)
  clear HM
  go_wp2_with fail
  go_ret2
  exact ⟨rfl, HG.out, HM3.out⟩
theorem m_matrix (p : Nat) (w : World) : (method 243 72 (.pointer (some ⟨p, 0, none⟩)) "GetMatrix").run Try.prog w = .ok (57, .pointer (some ⟨p, 0, none⟩)) w := by kernel_rfl
theorem m_width (p : Nat) (w : World) : (method 243 72 (.pointer (some ⟨p, 0, none⟩)) "GetWidth").run Try.prog w = .ok (59, .pointer (some ⟨p, 0, none⟩)) w := by kernel_rfl
theorem m_height (p : Nat) (w : World) : (method 243 72 (.pointer (some ⟨p, 0, none⟩)) "GetHeight").run Try.prog w = .ok (56, .pointer (some ⟨p, 0, none⟩)) w := by kernel_rfl
theorem m_row (p : Nat) (w : World) : (method 243 72 (.pointer (some ⟨p, 0, none⟩)) "GetRow").run Try.prog w = .ok (58, .pointer (some ⟨p, 0, none⟩)) w := by kernel_rfl
theorem SrcIs.below {w w' : World} {p : Nat} {A : Option Addr} {n c dw dh l t wd ht : Nat} (h : SrcIs w p A n c dw dh l t wd ht) (hb : Below w.heap.size w w') : SrcIs w' p A n c dw dh l t wd ht := Arr.below h hb h.lt
end Go.Proofs.Ythgnmcofclndlaa
