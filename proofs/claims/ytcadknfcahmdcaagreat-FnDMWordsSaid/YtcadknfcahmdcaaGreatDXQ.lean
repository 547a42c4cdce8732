/-
  A text's own part, and which texts are held (dmOwn, dmHeld), walked. No condition beyond the bounds that each theorem states.
-/
import Derived.Test.YtcadknfcahmdcaaGreatDXP
import Derived.Test.YtcadknfcahmdcaaGreatDWS
namespace Go.Proofs.YtcadknfcahmdcaaGreat
open Go.RowKit Go.Qz Go.Qz.DF
open Go.Qz.DV hiding val run part
set_option linter.unusedVariables false

theorem toList_53 : (ByteArray.mk #[91, 41, 62, 30, 48, 53, 29]).toList = [91, 41, 62, 30, 48, 53, 29] := by rw [ByteArray.toList_eq]
theorem toList_54 : (ByteArray.mk #[91, 41, 62, 30, 48, 54, 29]).toList = [91, 41, 62, 30, 48, 54, 29] := by rw [ByteArray.toList_eq]
theorem toList_tr : (ByteArray.mk #[30, 4]).toList = [30, 4] := by rw [ByteArray.toList_eq]
def OwnPost (s : ByteArray) (w : World) (e : Ending) (w' : World) : Prop := ∃ own, e = .returned (.string own) ∧ own.size ≤ s.size ∧ (∀ mac p0 T, MacOf (sb s) mac p0 T → sb own = DV.part (sb s) p0 T) ∧ w = w'
theorem own_all {s : ByteArray} (h : ¬ IsMac (sb s) 53) (h2 : ¬ IsMac (sb s) 54) (w : World) : OwnPost s w (.returned (.string s)) w := ⟨s, rfl, Nat.le_refl _, fun mac p0 T hm => by
  rcases hm with ⟨_, rfl, rfl, _⟩ | ⟨_, _, _, h3⟩ | ⟨_, _, _, _, h3⟩
  · unfold DV.part; rw [List.drop_zero, List.take_length]
  · exact absurd h3 h
  · exact absurd h3 h2, rfl⟩
theorem own_part {s : ByteArray} {k : Nat} (hk : k + 2 = s.size) (h : IsMac (sb s) 53 ∨ IsMac (sb s) 54) (w : World) : OwnPost s w (.returned (.string (s.extract 7 k))) w := ⟨_, rfl, by rw [ByteArray.size_extract]; omega, fun mac p0 T hm => by
  have hT : T + 2 = (sb s).length ∧ p0 = 7 := by
    rcases hm with ⟨_, _, _, h1, h2⟩ | ⟨_, h1, h2, _⟩ | ⟨_, h1, h2, _⟩
    · rcases h with h | h
      · exact absurd h h1
      · exact absurd h h2
    · exact ⟨h2, h1⟩
    · exact ⟨h2, h1⟩
  obtain ⟨hT, rfl⟩ := hT
  rw [sb_len] at hT
  obtain rfl : T = k := by omega
  rw [sb_ext]; rfl, rfl⟩
set_option maxRecDepth 100000 in
set_option maxHeartbeats 1600000 in
theorem dmOwn (s : ByteArray) (hs : s.size < 4294967296) (w : World) : Calls Tryz.prog 16 #[.string s] w (OwnPost s w) := by
  by_cases h9 : 9 ≤ s.size
  · have h9i : (9 : Int) ≤ (s.size : Int) := by omega
    obtain ⟨k, hk⟩ : ∃ k, k = s.size - 2 := ⟨_, rfl⟩
    have q1 : IntKind.i64.wrap ((s.size : Int) - 2) = (k : Int) := by rw [IntKind.wrap_i64]; omega
    have hk7 : 7 ≤ k := by omega
    have hks : k ≤ s.size := by omega
    have hk7i : (7 : Int) ≤ (k : Int) := by omega
    have hksi : (k : Int) ≤ (s.size : Int) := by omega
    have h7 : 7 ≤ s.size := by omega
    obtain ⟨b1, hb1⟩ : ∃ b, b = ((s.extract 0 7).toList == [91, 41, 62, 30, 48, 53, 29]) := ⟨_, rfl⟩
    obtain ⟨b2, hb2⟩ : ∃ b, b = ((s.extract 0 7).toList == [91, 41, 62, 30, 48, 54, 29]) := ⟨_, rfl⟩
    obtain ⟨b3, hb3⟩ : ∃ b, b = ((s.extract k s.size).toList == [30, 4]) := ⟨_, rfl⟩
    have HB1 : Hid (b1 = true ↔ (sb s).take 7 = hdr 53) := Lib.hid (by rw [hb1, ← toList_53, toList_sb, sb_ext, List.drop_zero, decide_eq_true_iff]; exact Iff.rfl)
    have HB2 : Hid (b2 = true ↔ (sb s).take 7 = hdr 54) := Lib.hid (by rw [hb2, ← toList_54, toList_sb, sb_ext, List.drop_zero, decide_eq_true_iff]; exact Iff.rfl)
    have HB3 : Hid (b3 = true ↔ (sb s).drop ((sb s).length - 2) = [30, 4]) := Lib.hid (by rw [hb3, ← toList_tr, toList_sb, sb_drop, decide_eq_true_iff, sb_len, ← hk]; exact Iff.rfl)
    have hc1 := hb1.symm
    have hc2 := hb2.symm
    have hc3 := hb3.symm
    have HK : Hid (k + 2 = s.size) := Lib.hid (by omega)
    have H2 : Hid (2 ≤ (sb s).length) := Lib.hid (by rw [sb_len]; omega)
    clear hb1 hb2 hb3 hk h9
    have fin1 : b1 = false → b2 = false → ¬ IsMac (sb s) 53 ∧ ¬ IsMac (sb s) 54 := fun e1 e2 => ⟨fun h => (by have := HB1.out.2 h.1; rw [e1] at this; cases this), fun h => (by have := HB2.out.2 h.1; rw [e2] at this; cases this)⟩
    have fin2 : b3 = false → ¬ IsMac (sb s) 53 ∧ ¬ IsMac (sb s) 54 := fun e3 => ⟨fun h => (by have := HB3.out.2 h.2.2; rw [e3] at this; cases this), fun h => (by have := HB3.out.2 h.2.2; rw [e3] at this; cases this)⟩
    have fin3 : (b1 = true ∨ b2 = true) → b3 = true → IsMac (sb s) 53 ∨ IsMac (sb s) 54 := fun e1 e3 => by
      rcases e1 with e1 | e1
      · exact .inl ⟨HB1.out.1 e1, H2.out, HB3.out.1 e3⟩
      · exact .inr ⟨HB2.out.1 e1, H2.out, HB3.out.1 e3⟩
    have F1 := Lib.hid fin1
    have F2 := Lib.hid fin2
    have F3 := Lib.hid fin3
    clear fin1 fin2 fin3 HB1 HB2 HB3 H2
    go_enter Tryz.func16, Tryz.ntmps16
    cases b1
    · cases b2
      · obtain ⟨f1, f2⟩ := F1.out (by simp) (by simp)
        go_wp2_with fail
        go_ret
        exact own_all f1 f2 w
      · cases b3
        · obtain ⟨f1, f2⟩ := F2.out (by simp)
          go_wp2_with fail
          go_ret
          exact own_all f1 f2 w
        · go_wp2_with fail
          go_ret
          exact own_part HK.out (F3.out (by simp) (by simp)) w
    · cases b3
      · obtain ⟨f1, f2⟩ := F2.out (by simp)
        go_wp2_with fail
        go_ret
        exact own_all f1 f2 w
      · go_wp2_with fail
        go_ret
        exact own_part HK.out (F3.out (by simp) (by simp)) w
  · have h9i : ((9 : Int) ≤ (s.size : Int)) = False := by simp; omega
    have f1 : ¬ IsMac (sb s) 53 := fun h => by have := h.nine (.inl rfl); rw [sb_len] at this; omega
    have f2 : ¬ IsMac (sb s) 54 := fun h => by have := h.nine (.inr rfl); rw [sb_len] at this; omega
    have F1 := Lib.hid f1
    have F2 := Lib.hid f2
    clear f1 f2 h9
    go_enter Tryz.func16, Tryz.ntmps16
    go_wp2_with fail
    go_ret
    exact own_all F1.out F2.out w
/-- What a text that is held has. -/
structure Held (s : ByteArray) (sh : Nat) : Prop where
  pos : 0 < s.size
  plain : ∀ j, j < s.size → nth (sb s) j < 128
  room : 2 * s.size + 8 ≤ capMost sh
  clr : ∀ mac p0 T, MacOf (sb s) mac p0 T → Clr (DV.part (sb s) p0 T)
def HeldPost (s : ByteArray) (sh : Nat) (w : World) (e : Ending) (w' : World) : Prop := ∃ r, e = .returned (.bool r) ∧ (r = true → Held s sh) ∧ Below w.heap.size w w'
set_option maxRecDepth 100000 in
set_option maxHeartbeats 1600000 in
theorem dmHeld (s : ByteArray) (hs : s.size ≤ 2147483647) (sh : Nat) (hsh : sh ≤ 2) (w : World) : Calls Tryz.prog 5 #[.string s, .int .i64 sh] w (HeldPost s sh w) := by
  have HMX := Lib.hid (dmMost sh hsh w)
  have HPL := Lib.hid (fun W => dmPlain s (by omega) W)
  have HOW := Lib.hid (fun W => dmOwn s (by omega) W)
  have hmo : mostOf sh ≤ 1558 := by unfold mostOf; split <;> omega
  obtain ⟨mo, hmoe⟩ : ∃ m, m = mostOf sh := ⟨_, rfl⟩
  rw [← hmoe] at HMX hmo
  obtain ⟨n2, hn2⟩ : ∃ n2, n2 = 2 * s.size := ⟨_, rfl⟩
  obtain ⟨n8, hn8⟩ : ∃ n8, n8 = n2 + 8 := ⟨_, rfl⟩
  have q1 : IntKind.i64.wrap (2 * (s.size : Int)) = (n2 : Int) := by rw [IntKind.wrap_i64]; omega
  have q2 : IntKind.i64.wrap ((n2 : Int) + 8) = (n8 : Int) := by rw [IntKind.wrap_i64]; omega
  have HN : Hid (n8 = 2 * s.size + 8) := Lib.hid (by omega)
  have HMO : Hid (sh = 2 → mo = 49) := Lib.hid (fun e => by rw [hmoe]; unfold mostOf; rw [if_pos e])
  have HS := Lib.hid hs
  clear hn2 hn8 hmoe
  go_enter Tryz.func5, Tryz.ntmps5
  go_wp2_with fail
  refine HMX.out.mono ?_
  rintro e w1 ⟨rfl, hb1⟩
  have HB1 := Lib.hid hb1
  clear hb1 HMX
  go_upto_if 9 with (fail)
  go_cut [5] (fun b wx => ∃ m : Nat, b = .int .i64 m ∧ m ≤ 1558 ∧ wx = w1 ∧ Hid (m = capMost sh))
  case first =>
    by_cases h2 : sh = 2
    · have d2 : ((sh : Int) != 2) = false := by simp; omega
      have HC : Hid (mo = capMost sh) := Lib.hid (by rw [HMO.out h2]; unfold capMost; rw [if_pos h2])
      clear h2
      go_wp2_with fail
      go_meet
      case rel => exact ⟨mo, rfl, hmo, rfl, HC⟩
    · have d2 : ((sh : Int) != 2) = true := by simp; omega
      have HC : Hid (1304 = capMost sh) := Lib.hid (by unfold capMost; rw [if_neg h2])
      clear h2
      go_wp2_with fail
      go_meet
      case rel => exact ⟨1304, rfl, by omega, rfl, HC⟩
  case rest =>
    obtain ⟨m, hu, hm, hwc, HM⟩ := hcut
    subst hu
    rw [hwc]
    clear hwc HMO
    by_cases h0 : 0 < s.size
    · have d0 : decide ((0 : Int) < (s.size : Int)) = true := by simp; omega
      have d0' : decide (0 < s.size) = true := by simp; omega
      have H0 := Lib.hid h0
      clear h0
      go_wp2_with fail
      refine (HPL.out w1).mono ?_
      rintro e w' ⟨r, rfl, hr, rfl⟩
      have HR := Lib.hid hr
      clear hr HPL
      cases r
      · go_wp2_with fail
        go_ret
        exact ⟨false, rfl, fun h => (by cases h), HB1.out⟩
      · have HP : Hid (∀ j, j < s.size → nth (sb s) j < 128) := Lib.hid (fun j hj => HR.out (by simp) j hj)
        clear HR
        by_cases h8 : n8 ≤ m
        · have d8 : decide ((n8 : Int) ≤ (m : Int)) = true := by simp; omega
          have d8' : decide (n8 ≤ m) = true := by simp; omega
          have H8 : Hid (2 * s.size + 8 ≤ capMost sh) := Lib.hid (by rw [← HM.out, ← HN.out]; exact h8)
          have hsz : s.size ≤ 1000 := by have := H8.out; have hc : capMost sh ≤ 1304 := (by unfold capMost; split <;> omega); omega
          clear h8 HM HN
          go_wp2_with fail
          refine (HOW.out w1).mono ?_
          rintro e w' ⟨own, rfl, ho1, ho2, rfl⟩
          have HOE := Lib.hid ho2
          have HCL := Lib.hid (dmClear own (by omega) w1)
          clear ho1 ho2 HOW
          go_wp2_with fail
          refine HCL.out.mono ?_
          rintro e w' ⟨r2, rfl, hr2, rfl⟩
          have HR2 := Lib.hid hr2
          clear hr2 HCL
          go_wp2_with fail
          go_ret
          exact ⟨r2, rfl, fun h => ⟨H0.out, HP.out, H8.out, fun mac p0 T hm => by rw [← HOE.out mac p0 T hm]; exact HR2.out h⟩, HB1.out⟩
        · have d8 : decide ((n8 : Int) ≤ (m : Int)) = false := decide_eq_false (fun h => h8 (by omega))
          have d8' : decide (n8 ≤ m) = false := decide_eq_false h8
          clear h8
          go_wp2_with fail
          go_ret
          exact ⟨false, rfl, fun h => (by cases h), HB1.out⟩
    · have d0 : decide ((0 : Int) < (s.size : Int)) = false := decide_eq_false (fun h => h0 (by omega))
      have d0' : decide (0 < s.size) = false := decide_eq_false h0
      have d1' : s.size = 0 := by omega
      clear h0
      go_wp2_with fail
      go_ret
      exact ⟨false, rfl, fun h => (by cases h), HB1.out⟩
end Go.Proofs.YtcadknfcahmdcaaGreat
