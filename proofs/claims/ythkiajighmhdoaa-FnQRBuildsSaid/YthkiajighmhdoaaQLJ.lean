/-
  impl.QRBuild, walked. No condition beyond the bounds that each theorem states.
-/
import Derived.Test.YthkiajighmhdoaaQLI
import Derived.Test.YthkiajighmhdoaaQWE
import Derived.Test.YthkiajighmhdoaaQKC
namespace Go.Proofs.Ythkiajighmhdoaa
open Go.RowKit Go.Qz Go.Qz.QK Go.Qz.QW
open Go.Qz.QB (fb vb rrest vb_lt fb_lt)
set_option linter.unusedVariables false

def QBuildPost (v d sz m : Nat) (z : Nat → Bool) (w : World) (e : Ending) (w' : World) : Prop :=
  (sz ≤ roomOf v ∧ ∃ A c, e = .returned (.tuple #[.slice A (dimOf v) c, .bool true]) ∧ Hid (GotR w' A (dimOf v) (fun r c => .int .i8 (fl (dimOf v) (gvB v) (base v (fb d) (vb v)) (vM m sz z) ((dimOf v - 1) * dimOf v) r c))) ∧ Hid (Below w.heap.size w w')) ∨
  (roomOf v < sz ∧ e = .returned (.tuple #[.slice none 0 0, .bool false]) ∧ Hid (Below w.heap.size w w'))
set_option maxRecDepth 100000 in
set_option maxHeartbeats 3200000 in
theorem qrBuild (A : Option Addr) (L cap v l m d : Nat) (z : Nat → Bool) (hL : L ≤ 2147483647) (hd : d = l * 8 + m) (hl : l < 4) (hm8 : m < 8) (h1 : 1 ≤ v) (h2 : v ≤ 40) (w : World) (hR : Rd w A L (fun j => .bool (z j))) :
    Calls Try.prog 15 #[.slice A L cap, .int .i64 l, .int .i64 v, .int .i64 m] w (QBuildPost v d L m z w) := by
  have hneE : ∀ W, (binOp .neq 60 .nilIface .nilIface).run Try.prog W = .ok (.bool false) W := fun W => rfl
  have HX := Lib.hid (And.intro hL (And.intro hd (And.intro hl (And.intro hm8 (And.intro h1 h2)))))
  have HR := Lib.hid hR
  have HV := Lib.hid (getVer v h1 h2 w)
  have HRF := Lib.hid (room_fine v h1 h2).2
  have hn200 : dimOf v ≤ 200 := by unfold dimOf; omega
  have hn21 : 21 ≤ dimOf v := by unfold dimOf; omega
  have HNN := Lib.hid (And.intro hn21 hn200)
  clear hL hd hl hm8 h1 h2 hR hn200 hn21
  go_enter Try.func15, Try.ntmps15
  go_wp2_with fail
  refine HV.out.mono ?_
  rintro e w1 ⟨pv, rfl, hv1, hb1⟩
  have HV1 := Lib.hid hv1
  have HB1 := Lib.hid hb1
  have HPV := Lib.hid hv1.lt
  have HC1 : Hid (w1.cell? ⟨pv, 0, none⟩ = some (.int .i64 v)) := Lib.hid (by
    obtain ⟨s, _, ha, _⟩ := hv1
    have := ha.cell? 0
    simpa using this)
  obtain ⟨n, hn⟩ : ∃ n, n = dimOf v := ⟨_, rfl⟩
  have HN := Lib.hid hn
  have HVD := Lib.hid (verDim pv v n hn HX.out.2.2.2.2.2 w1 HC1.out)
  clear HV hv1 hb1 hn
  go_wp2_with fail
  refine HVD.out.mono ?_
  rintro e w1 ⟨rfl, rfl⟩
  have HMN := Lib.hid (mat_new n (by rw [HN.out]; have := HNN.out.2; omega) w1)
  clear HVD
  go_wp2_with fail
  refine HMN.out.mono ?_
  rintro e w2 ⟨M, B, rfl, hmat, hBB, hb2⟩
  have HMG : Hid (MG w2 M B n (fun _ _ => 0)) := Lib.hid hmat
  have HBB := Lib.hid hBB
  have HSB : Hid (w.heap.size ≤ B) := Lib.hid (Nat.le_trans HB1.out.size hBB)
  have HB2 : Hid (Below w.heap.size w w2) := Lib.hid (HB1.out.trans (hb2.mono HB1.out.size))
  have HC2 : Hid (w2.cell? ⟨pv, 0, none⟩ = some (.int .i64 v)) := Lib.hid ((hb2.cell (p := ⟨pv, 0, none⟩) HPV.out).trans HC1.out)
  have HAR := Lib.hid (ba_arrayL A L cap z w2 (by have := HX.out.1; omega) (HR.out.below HB2.out))
  clear HMN hmat hBB hb2 HC1 HB1 HV1
  go_wp2_with fail
  refine HAR.out.mono ?_
  rintro e w3 ⟨p, k, ws, rfl, hba, hwl, hwz, hb3, hp, hk⟩
  have HMG3 : Hid (MG w3 M B n (fun _ _ => 0)) := Lib.hid (HMG.out.below hb3)
  have HB3 : Hid (Below w.heap.size w w3) := Lib.hid (HB2.out.trans (hb3.mono HB2.out.size))
  have hpv2 : pv < w2.heap.size := by have := HPV.out; have := HBB.out; have := HMG.out.mlt; have := HMG.out.lt; omega
  have hpM : M < p ∧ M < k := by have := HMG.out.mlt; omega
  have HBD := Lib.hid (build (w := w3) (M := M) (B := B) (g := fun _ _ => 0) v l m d L pv p k z HX.out.2.1 HX.out.2.2.1 HX.out.2.2.2.1 HX.out.2.2.2.2.1 HX.out.2.2.2.2.2 HX.out.1 (by have := HPV.out; have := HBB.out; omega) hpM (by have := HRF.out; omega)
    ((hb3.cell (p := ⟨pv, 0, none⟩) hpv2).trans HC2.out) (by rw [← HN.out]; exact HMG3.out) ⟨ws, hba, hwl, hwz⟩)
  clear HAR hba hwl hwz hb3 hp hk hpv2 hpM HMG HC2 HB2
  go_wp2_with fail
  refine HBD.out.mono ?_
  rintro e w4 (⟨hfit, rfl, HM4, HMod⟩ | ⟨hfit, x, rfl, ⟨y, rfl⟩, HMod⟩)
  · have HB4 : Hid (Below w.heap.size w w4) := Lib.hid (HB3.out.trans (HMod.out.below HB3.out.size (fun k hk => Nat.le_trans HSB.out hk.1)))
    have HBY := Lib.hid (bytesOf M B _ _ (by have := HNN.out.1; omega) (by have := HNN.out.2; omega) w4 HM4.out)
    clear HBD HMod
    go_wp2_with fail
    refine HBY.out.mono ?_
    rintro e w5 ⟨A5, c5, rfl, HG5, hb5⟩
    have HB5 : Hid (Below w.heap.size w w5) := Lib.hid (HB4.out.trans (hb5.out.mono HB4.out.size))
    go_wp2_with fail
    go_ret2
    exact .inl ⟨hfit, A5, c5, rfl, HG5, HB5⟩
  · have HB4 : Hid (Below w.heap.size w w4) := Lib.hid (HB3.out.trans (HMod.out.below HB3.out.size (fun k hk => Nat.le_trans HSB.out hk.1)))
    have hneW : ∀ W, (binOp .neq 60 (.iface 190 y) .nilIface).run Try.prog W = .ok (.bool true) W := fun W => run_neq_held_nil W _ _ _ errIface
    clear HBD HMod
    go_wp2_with fail
    go_ret2
    exact .inr ⟨hfit, rfl, HB4⟩
end Go.Proofs.Ythkiajighmhdoaa
