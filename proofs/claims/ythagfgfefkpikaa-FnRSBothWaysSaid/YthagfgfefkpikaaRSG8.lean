/-
  NewReedSolomonDecoder and impl.RSDecode, walked. No condition beyond the bounds that the theorems state.
-/
import Derived.Test.YthagfgfefkpikaaRSG7
import Derived.Test.YthagfgfefkpikaaRSE5
import Derived.Test.YthagfgfefkpikaaRSD6
namespace Go.Proofs.Ythagfgfefkpikaa
open Go.RowKit Go.Qz Go.Qz.RS
set_option linter.unusedVariables false

set_option maxRecDepth 100000 in
theorem dec_new (f : Nat) (w : World) :
    Calls Try.prog 44 #[.pointer (some ⟨f, 0, none⟩)] w fun e w' => ∃ D, e = .returned (.pointer (some ⟨D, 0, none⟩)) ∧ Arr w' 98 D [.pointer (some ⟨f, 0, none⟩)] ∧ Below w.heap.size w w' ∧ w.heap.size ≤ D := by
  go_enter Try.func44, Try.ntmps44
  go_wp2_with fail
  go_ret
  exact ⟨w.heap.size, rfl, Arr.new w _ [.pointer (some ⟨f, 0, none⟩)], (Below.refl _ _).alloc (Nat.le_refl _) _, Nat.le_refl _⟩

def RDPost (L : List Nat) (n : Nat) (w : World) (e : Ending) (w' : World) : Prop :=
  ∃ A c, e = .returned (.tuple #[.slice A n c, .bool true]) ∧ SlQ w' (fun k => w.heap.size ≤ k) A L c ∧ Below w.heap.size w w'

set_option maxRecDepth 100000 in
set_option maxHeartbeats 6400000 in
theorem rsDecode (F : Fld) (hF : Six F) (M n : Nat) (hM : 2 ≤ M) (hMl : M ≤ 1000) (hMs : M + 1 < F.size) (L R J : List Nat) (Y : Nat → Nat) (hY : ∀ j, Y j < F.size) (hY0 : ∀ j, Y j ≠ 0) (hL : El F L) (hR : El F R) (nd : J.Nodup) (hJ : ∀ j ∈ J, j < L.length) (hν : 2 * J.length ≤ M) (hn : n = L.length) (hn0 : 0 < n) (hnl : n ≤ F.size - 1)
    (hroot : ∀ i, i < M → ev F L (ex F (i + F.base)) = 0) (hr : Rcv F Y L R J) (A : Option Addr) (c : Nat) (w : World) (hc : n ≤ c) (h : Rd w A n (fun j => .int .i64 (nth R j : Nat))) :
    Calls Try.prog 29 #[fv F, .slice A n c, .int .i64 M] w (RDPost L n w) := by
  have hs := hF.bounds
  have hrl : R.length = n := by rw [hr.len, hn]
  have hb0 : Below w.heap.size w (w.alloc (.cells #[.int .i64 F.prim, .int .i64 F.size, .int .i64 F.base] 23)) := (Below.refl _ _).alloc (Nat.le_refl _) _
  have hrd := h.below hb0
  have hAr : Arr (w.alloc (.cells #[.int .i64 F.prim, .int .i64 F.size, .int .i64 F.base] 23)) 23 w.heap.size [.int .i64 F.prim, .int .i64 F.size, .int .i64 F.base] := Arr.new _ _ _
  have hneq2 : ∀ W, (binOp .neq 76 .nilIface .nilIface).run Try.prog W = .ok (.bool false) W := fun W => rfl
  have HDEC := Lib.hid (fun D f ab cap spare W hcc hD hDa hg ha => decode F hF M n hM hMl hMs L R J Y hY hY0 hL hR nd hJ hν hn hn0 hnl hroot hr D f ab cap spare W hcc hD hDa hg ha)
  have HN := Lib.hid hn
  unfold fv
  clear h hY hY0 hL hR nd hJ hν hroot hr hn
  go_enter Try.func29, Try.ntmps29
  go_wp2_with (at_builtin; refine wpList_copyTo _ _ 29 (w.heap.size + 1) 3 (.int .i64 0) 8 _ 0 [] _ _ _ _ rfl rfl rfl rfl Try.underlying29 Try.infoInt rfl (fun j _ => rfl) (by decide) (World.ownsRow_nil _ _ _ _) hrd (by omega) (by simp) ?_)
  intro v1 w1 hown1 hg1 hb1
  have hr2 : (List.range n).map (fun j => Value.int .i64 (nth R j : Nat)) = ints R := by
    rw [← hrl, range_nth]; rfl
  rw [hr2] at hown1
  have hE1 : w.heap.size + 1 ≤ w1.heap.size := by have := hb1.size; simp at this; omega
  have HA1 := Lib.hid (hAr.below hb1 (by omega))
  have HB1 := Lib.hid (hb0.trans (hb1.mono (by omega)))
  have hown3 := hown1.2
  rcases hown3 with ⟨_, h0⟩ | ⟨lb, cap, cur, rfl, hlb, hcur, hncap, hcm, hcsz, htk⟩
  · exfalso
    omega
  have hlbl : lb < w1.heap.size := (Array.getElem?_eq_some_iff.1 hcur).1
  rw [Nat.mul_one] at htk
  obtain ⟨spare, hsp⟩ : ∃ spare, spare = cur.toList.drop n := ⟨_, rfl⟩
  have hcl : cur.toList = ints R ++ spare := by rw [← htk, hsp, List.take_append_drop]
  have HARR : Hid (Arr w1 3 lb (ints R ++ spare)) := Lib.hid (by
    unfold Arr
    rw [hcur, ← hcl, Array.toArray_toList])
  have HFI := implField (fun k => k ≠ lb) F hF w1 (fun k hk => by omega)
  unfold fv at HFI
  have HFI := Lib.hid HFI
  obtain ⟨c0, c1, c2⟩ := fcells HA1.out
  clear hown1 hg1 hb1 hrd hAr hb0 hcur hcsz htk hsp hcl hr2 HA1
  go_wp2_with fail
  refine HFI.out.mono ?_
  rintro en w3 ⟨f, rfl, hgf, hb3, _⟩
  have hs3 : w1.heap.size ≤ w3.heap.size := hb3.size
  have HGF := Lib.hid hgf
  have HB3 := Lib.hid (HB1.out.trans (hb3.mono (by omega)))
  have HARR3 := Lib.hid (HARR.out.below hb3 hlbl)
  have HDN := Lib.hid (dec_new f w3)
  clear hgf hb3 HFI HB1 HARR c0 c1 c2
  go_wp2_with fail
  refine HDN.out.mono ?_
  rintro en w4 ⟨D, rfl, hD, hb4, hDl⟩
  have hecall := HDEC.out D f lb cap spare w4 hncap hD (by omega) (HGF.out.below hb4) (HARR3.out.below hb4 (by omega))
  have HEC := Lib.hid hecall
  have HB4 := Lib.hid (HB3.out.trans (hb4.mono HB3.out.size))
  clear hD hb4 hecall HDN HARR3 HGF HB3 hDl
  go_wp2_with fail
  refine HEC.out.mono ?_
  rintro en w5 ⟨rfl, harr, hm5⟩
  have HARR5 := Lib.hid harr
  have HB5 := Lib.hid (HB4.out.trans (hm5.below HB4.out.size (fun k hk => by omega)))
  clear harr hm5 HEC HB4
  go_wp2_with fail
  go_ret2
  refine ⟨_, cap, rfl, ⟨by rw [← HN.out]; exact hncap, fun _ => ⟨lb, 0, rfl, by omega, HARR5.out.lt, fun j hj => ?_⟩⟩, HB5.out⟩
  rw [Nat.zero_add, HARR5.out.cell?]
  exact intsS_get spare hj
end Go.Proofs.Ythagfgfefkpikaa
