/-
  fits, NewPlanarYUVLuminanceSource, Crop and impl.source, walked. No condition beyond the bounds that each theorem states.
-/
import Derived.Test.YthgnmcofclndlaaPG
import Derived.Deep.QuietTactic
import Derived.BigQuiet
import Derived.Laws.OwnMore
namespace Go.Proofs.Ythgnmcofclndlaa
open Go.RowKit Go.Qz
set_option linter.unusedVariables false

def IsErr (v : Value) : Prop := ∃ b : Nat, v = .iface 90 (.pointer (some ⟨b, 0, none⟩))
set_option maxRecDepth 100000 in
theorem err_new (s : ByteArray) (w : World) :
    Calls Try.prog 34 #[.string s] w fun e w' => ∃ v, e = .returned v ∧ IsErr v ∧ Below w.heap.size w w' := by
  go_enter Try.func34, Try.ntmps34
  go_wp2_with fail
  go_ret
  exact ⟨_, rfl, ⟨_, rfl⟩, (Below.refl _ _).alloc (Nat.le_refl _) _⟩
theorem errIface : Try.prog.underlying 51 = some (.interface (Try.prog.methodsAt 51)) := by kernel_rfl

set_option maxRecDepth 100000 in
set_option maxHeartbeats 800000 in
theorem fits (W H N : Nat) (hW : 1 ≤ W) (hH : 1 ≤ H) (hW2 : W ≤ 60) (hH2 : H ≤ 60) (hN : N = W * H) (w : World) :
    Calls Try.prog 27 #[.int .i64 W, .int .i64 H, .int .i64 N] w fun e w' => e = .returned (.bool true) ∧ w = w' := by
  have e1 : (N : Int) / (W : Int) = (H : Int) := by
    have : N / W = H := by rw [hN]; exact Nat.mul_div_cancel_left _ (by omega)
    omega
  have e2 : (N : Int).tdiv (W : Int) = (H : Int) := by rw [Int.tdiv_eq_ediv_of_nonneg (by omega)]; exact e1
  have e3 : (N : Int) % (W : Int) = 0 := by
    have : N % W = 0 := by rw [hN]; exact Nat.mul_mod_right _ _
    omega
  have e4 : (N : Int).tmod (W : Int) = 0 := by rw [Int.tmod_eq_emod_of_nonneg (by omega)]; exact e3
  have hNl : N ≤ 3600 := by rw [hN]; exact Nat.mul_le_mul hW2 hH2
  clear hN
  go_enter Try.func27, Try.ntmps27
  go_wp2_with fail
  go_ret
  exact ⟨rfl, rfl⟩

/-- A source of grays, in memory. -/
def SrcIs (w : World) (p : Nat) (A : Option Addr) (n c : Nat) (dw dh l t wd ht : Nat) : Prop :=
  Arr w 76 p [.int .i64 wd, .int .i64 ht, .slice A n c, .int .i64 dw, .int .i64 dh, .int .i64 l, .int .i64 t]
/-- A source that was made. -/
def SrcPost (A : Option Addr) (n c dw dh l t wd ht : Nat) (w : World) (e : Ending) (w' : World) : Prop :=
  ∃ p, e = .returned (.tuple #[.iface 72 (.pointer (some ⟨p, 0, none⟩)), .nilIface]) ∧ SrcIs w' p A n c dw dh l t wd ht ∧ Below w.heap.size w w'
def SrcErr (w : World) (e : Ending) (w' : World) : Prop := ∃ x, e = .returned (.tuple #[.nilIface, x]) ∧ IsErr x ∧ Below w.heap.size w w'

set_option maxRecDepth 100000 in
set_option maxHeartbeats 800000 in
theorem planar_ok (A : Option Addr) (n c dw dh l t wd ht : Nat) (h1 : l + wd ≤ dw) (h2 : t + ht ≤ dh) (h3 : dw ≤ 1000) (h4 : dh ≤ 1000) (w : World) :
    Calls Try.prog 28 #[.slice A n c, .int .i64 dw, .int .i64 dh, .int .i64 l, .int .i64 t, .int .i64 wd, .int .i64 ht, .bool false] w (SrcPost A n c dw dh l t wd ht w) := by
  have g1 : ((dw : Int) < (l : Int) + (wd : Int)) = False := by simp; omega
  have g2 : ((dh : Int) < (t : Int) + (ht : Int)) = False := by simp; omega
  have b1 : l ≤ 1000 := by omega
  have b2 : t ≤ 1000 := by omega
  have b3 : wd ≤ 1000 := by omega
  have b4 : ht ≤ 1000 := by omega
  clear h1 h2 h3 h4
  go_enter Try.func28, Try.ntmps28
  go_wp2_with fail
  go_ret2
  exact ⟨_, rfl, Arr.new _ _ _, (Below.refl _ _).alloc (Nat.le_refl _) _⟩
set_option maxRecDepth 100000 in
set_option maxHeartbeats 800000 in
theorem planar_not (A : Option Addr) (n c dw dh l t wd ht : Nat) (h : dw < l + wd ∨ dh < t + ht) (b1 : l ≤ 1000) (b2 : t ≤ 1000) (b3 : wd ≤ 1000) (b4 : ht ≤ 1000) (w : World) :
    Calls Try.prog 28 #[.slice A n c, .int .i64 dw, .int .i64 dh, .int .i64 l, .int .i64 t, .int .i64 wd, .int .i64 ht, .bool false] w (SrcErr w) := by
  by_cases h1 : dw < l + wd
  · have g1 : (dw : Int) < (l : Int) + (wd : Int) := by omega
    clear h h1
    go_enter Try.func28, Try.ntmps28
    go_wp2_with fail
    refine (err_new _ _).mono ?_
    rintro e w1 ⟨x, rfl, hx, hb⟩
    have HB := Lib.hid hb
    clear hb
    go_wp2_with fail
    go_ret2
    exact ⟨x, rfl, hx, HB.out⟩
  · have h2 : dh < t + ht := by omega
    have g1 : ((dw : Int) < (l : Int) + (wd : Int)) = False := by simp; omega
    have g2 : (dh : Int) < (t : Int) + (ht : Int) := by omega
    clear h h1 h2
    go_enter Try.func28, Try.ntmps28
    go_wp2_with fail
    refine (err_new _ _).mono ?_
    rintro e w1 ⟨x, rfl, hx, hb⟩
    have HB := Lib.hid hb
    clear hb
    go_wp2_with fail
    go_ret2
    exact ⟨x, rfl, hx, HB.out⟩

/-- A source of a copy of bytes. -/
def SourcePost (W H N : Nat) (f : Nat → Value) (w : World) (e : Ending) (w' : World) : Prop :=
  ∃ p A c, e = .returned (.tuple #[.iface 72 (.pointer (some ⟨p, 0, none⟩)), .bool true]) ∧ SrcIs w' p A N c W H 0 0 W H ∧ N ≤ c ∧ c ≤ maxLen ∧ Hid (Rd w' A N f) ∧ Below w.heap.size w w'
set_option maxRecDepth 100000 in
set_option maxHeartbeats 1600000 in
theorem source (W H N : Nat) (A : Option Addr) (c : Nat) (f : Nat → Int) (hW : 1 ≤ W) (hH : 1 ≤ H) (hW2 : W ≤ 60) (hH2 : H ≤ 60) (hN : N = W * H) (w : World) (hr : Rd w A N (fun j => .int .u8 (f j))) :
    Calls Try.prog 21 #[.int .i64 W, .int .i64 H, .slice A N c, .bool false] w (SourcePost W H N (fun j => .int .u8 (f j)) w) := by
  have HF := Lib.hid (fits W H N hW hH hW2 hH2 hN w)
  have hNl : N ≤ 3600 := by rw [hN]; exact Nat.mul_le_mul hW2 hH2
  have heq : ∀ X, (binOp .eql 51 .nilIface .nilIface).run Try.prog X = .ok (.bool true) X := fun X => rfl
  clear hN
  go_enter Try.func21, Try.ntmps21
  go_wp2_with fail
  refine HF.out.mono ?_
  rintro e w1 ⟨rfl, rfl⟩
  go_wp2_with (at_builtin; refine wpList_copyTo _ _ 22 w.heap.size 5 (.int .u8 0) 1 _ 0 [] _ _ _ _ rfl rfl rfl rfl Try.underlying22 Try.infoByte rfl (fun j _ => rfl) (by decide) (World.ownsRow_nil _ _ _ _) hr (by omega) (Nat.le_refl _) ?_)
  intro v' w1 hown hg hb
  obtain ⟨A', c', rfl, hnc, hcm, hrd⟩ := Rd.of_own hown
  have HR : Hid (Rd w1 A' N (fun j => .int .u8 (f j))) := Lib.hid (hrd.congr fun j hj => by
    simp [List.getD_eq_getElem?_getD, hj])
  have HB := Lib.hid hb
  clear hr hown hg hb hrd
  go_wp2_with fail
  refine (planar_ok A' N c' W H 0 0 W H (by omega) (by omega) (by omega) (by omega) w1).mono ?_
  rintro e w2 ⟨p, rfl, hs, hb2⟩
  have HS := Lib.hid hs
  have HR2 : Hid (Rd w2 A' N (fun j => .int .u8 (f j))) := Lib.hid (HR.out.below hb2)
  have HB2 := Lib.hid (HB.out.trans (hb2.mono HB.out.size))
  clear hs hb2
  go_wp2_with fail
  go_quiet (fail)
  go_wp2_with fail
  go_ret2
  exact ⟨p, A', c', rfl, HS.out, hnc, hcm, HR2, below_drewN HB2.out _⟩
end Go.Proofs.Ythgnmcofclndlaa
