/-
  impl.RSEncode, walked. No condition beyond the bounds that the theorem states.
-/
import Derived.Test.YthagfgfefkpikaaRSE4
import Derived.Test.YthagfgfefkpikaaAPZ
namespace Go.Proofs.Ythagfgfefkpikaa
open Go.RowKit Go.Qz Go.Qz.RS
set_option linter.unusedVariables false

/-- What RSEncode answers: the code, whatever its quotient and rest. -/
def CodePost (F : Fld) (data : List Nat) (ec : Nat) (w : World) (en : Ending) (w' : World) : Prop :=
  ∃ A c q r, en = .returned (.tuple #[.slice A (data.length + ec) c, .bool true]) ∧ SlQ w' (fun k => w.heap.size ≤ k) A (coded data r ec) c ∧ c ≤ maxLen ∧ (coded data r ec).length = data.length + ec ∧ El F q ∧ El F r ∧ q ≠ [] ∧ r.length ≤ ec ∧ plus (prod F q (gen F ec)) r = shfL F (tidy data) ec 1 ∧ Below w.heap.size w w'
theorem coded_length (data r : List Nat) (ec : Nat) (h : r.length ≤ ec) : (coded data r ec).length = data.length + ec := by
  unfold coded
  simp only [List.length_append, List.length_replicate]; omega

set_option maxRecDepth 100000 in
set_option maxHeartbeats 3200000 in
theorem implEncode (F : Fld) (hF : Six F) (data : List Nat) (ec : Nat) (A : Option Addr) (c : Nat) (h1 : 1 ≤ ec) (hec : ec + 1 ≤ F.size) (hd1 : data ≠ []) (hdl : data.length + ec ≤ 5000) (hde : El F data) (w : World) (h : Rd w A data.length (fun j => .int .i64 (nth data j : Nat))) :
    Calls Try.prog 27 #[fv F, .slice A data.length c, .int .i64 ec] w (CodePost F data ec w) := by
  have hs := hF.bounds
  have hb0 : Below w.heap.size w (w.alloc (.cells #[.int .i64 F.prim, .int .i64 F.size, .int .i64 F.base] 23)) := (Below.refl _ _).alloc (Nat.le_refl _) _
  have hr := h.below hb0
  have hAr : Arr (w.alloc (.cells #[.int .i64 F.prim, .int .i64 F.size, .int .i64 F.base] 23)) 23 w.heap.size [.int .i64 F.prim, .int .i64 F.size, .int .i64 F.base] := Arr.new _ _ _
  have hmx : max 0 (ec : Int) = (ec : Int) := by omega
  have hmx2 : (if (0 : Int) < (ec : Int) then (ec : Int) else 0) = (ec : Int) := by split <;> omega
  have hdp := List.length_pos_iff.2 hd1
  have hneq2 : ∀ W, (binOp .neq 58 .nilIface .nilIface).run Try.prog W = .ok (.bool false) W := fun W => rfl
  have HD1 := Lib.hid hd1
  unfold fv
  clear h hd1
  go_enter Try.func27, Try.ntmps27
  go_wp2_with (at_builtin; refine wpList_copyTo _ _ 29 (w.heap.size + 1) 3 (.int .i64 0) 8 _ 0 [] _ _ _ _ rfl rfl rfl rfl Try.underlying29 Try.infoInt rfl (fun j _ => rfl) (by decide) (World.ownsRow_nil _ _ _ _) hr (by omega) (by simp) ?_)
  intro v1 w1 hown1 hg1 hb1
  rw [range_nth] at hown1
  have HO1 : Hid (w1.ownsRow (w.heap.size + 1) 3 1 v1 data.length (ints data)) := Lib.hid (by simpa [ints] using hown1)
  have hE1 : w.heap.size + 1 ≤ w1.heap.size := by have := hb1.size; simp at this; omega
  have HA1 := Lib.hid (hAr.below hb1 (by omega))
  have HB1 := Lib.hid (hb0.trans (hb1.mono (by omega)))
  clear hown1 hg1 hb1 hr hAr hb0
  go_wp2_with (at_builtin; refine wpList_appendz _ _ 29 3 .i64 (w.heap.size + 1) 3 (.int .i64 0) 8 v1 data.length (ints data) ec rfl rfl rfl rfl Try.underlying29 (by kernel_rfl) Try.infoInt rfl rfl (by decide) HO1.out (by omega) (by omega) hE1 ?_)
  intro v2 w2 hown2 hg2 hb2
  have HA2 := Lib.hid (HA1.out.below hb2 (by omega))
  have HB2 := Lib.hid (HB1.out.trans (hb2.mono (by omega)))
  have hE2 : w.heap.size + 1 ≤ w2.heap.size := Nat.le_trans hE1 hb2.size
  have hown3 := hown2.2
  rcases hown3 with ⟨_, h0⟩ | ⟨lb, cap, cur, rfl, hlb, hcur, hncap, hcm, hcsz, htk⟩
  · exfalso
    omega
  have hlbl : lb < w2.heap.size := (Array.getElem?_eq_some_iff.1 hcur).1
  have hz : List.replicate ec (Value.int .i64 0) = ints (List.replicate ec 0) := by simp [ints]
  rw [hz, ← ints_append, Nat.mul_one] at htk
  obtain ⟨spare, hsp⟩ : ∃ spare, spare = cur.toList.drop (data.length + ec) := ⟨_, rfl⟩
  have hcl : cur.toList = ints (data ++ List.replicate ec 0) ++ spare := by rw [← htk, hsp, List.take_append_drop]
  have hspl : cap = data.length + ec + spare.length := by
    have hcl0 : cur.toList.length = cap := by rw [Array.length_toList]; omega
    rw [hsp, List.length_drop, hcl0]; omega
  have HARR : Hid (Arr w2 3 lb (ints (data ++ List.replicate ec 0) ++ spare)) := Lib.hid (by
    unfold Arr
    rw [hcur, ← hcl, Array.toArray_toList])
  have HSP := Lib.hid hspl
  have HFI := implField (fun k => w2.heap.size ≤ k) F hF w2 (fun k hk => hk)
  unfold fv at HFI
  have HFI := Lib.hid HFI
  have c0 := HA2.out.cell? 0
  have c1 := HA2.out.cell? 1
  have c2 := HA2.out.cell? 2
  simp only [List.getElem?_cons_zero, List.getElem?_cons_succ] at c0 c1 c2
  clear hown2 hg2 hb2 HO1 HA1 HB1 hcur hcsz htk hsp hcl hspl hz hmx hmx2
  go_wp2_with fail
  refine HFI.out.mono ?_
  rintro en w3 ⟨f, rfl, hgf, hb3, _⟩
  have hs3 : w2.heap.size ≤ w3.heap.size := hb3.size
  have HGF := Lib.hid hgf.bound
  have HB3 := Lib.hid (HB2.out.trans (hb3.mono (by omega)))
  have HARR3 := Lib.hid (HARR.out.below hb3 hlbl)
  have HEN := Lib.hid (enc_new lb f w3 (by omega))
  clear hgf hb3 HFI HB2 HARR c0 c1 c2
  go_wp2_with fail
  refine HEN.out.mono ?_
  rintro en w4 ⟨e, g0, v0, rfl, heq, hg0, hb4⟩
  have HB4 := Lib.hid (HB3.out.trans (hb4.mono (by omega)))
  have hecall := encode F hF w3.heap.size e f g0 lb w.heap.size ec (data.length + ec) cap v0 data spare h1 hec HD1.out hdl hde rfl HSP.out hcm w4 (by omega) (by omega) hb4.size heq hg0
    ((HGF.out.below hb4).imp fun k hk => by omega) (HARR3.out.below hb4 (by omega))
  have HEC := Lib.hid hecall
  clear heq hg0 hb4 hecall HEN HARR3 HGF HB3
  obtain ⟨n, hn⟩ : ∃ n, n = data.length + ec := ⟨_, rfl⟩
  have HN := Lib.hid hn
  rw [← hn] at HEC hncap ⊢
  clear hn
  go_wp2_with fail
  refine HEC.out.mono ?_
  rintro en w5 ⟨q, r, rfl, harr, hq, hre, hqn, hrl, hlaw, hb5⟩
  have HARR5 := Lib.hid harr
  have HB5 := Lib.hid (HB4.out.trans hb5)
  have HQ := Lib.hid hq
  have HRE := Lib.hid hre
  have HQN := Lib.hid hqn
  have HLAW := Lib.hid hlaw
  clear harr hb5 HEC HB4 hq hre hqn hlaw
  go_wp2_with fail
  go_ret2
  have hcl := coded_length data r ec hrl
  refine ⟨_, cap, q, r, by rw [HN.out]; rfl, ⟨by rw [hcl]; have := HN.out; omega, fun _ => ⟨lb, 0, rfl, by omega, HARR5.out.lt, fun j hj => ?_⟩⟩, hcm, hcl, HQ.out, HRE.out, HQN.out, hrl, HLAW.out, HB5.out⟩
  rw [Nat.zero_add, HARR5.out.cell?, List.getElem?_append_left (by rw [ints_length]; exact hj), ints_get _ _ hj]
end Go.Proofs.Ythagfgfefkpikaa
