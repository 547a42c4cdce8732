/-
  What EncodeHighLevel calls first: prefixes and suffixes of strings, encoders, setters, pads. No condition beyond the bounds that each theorem states.
-/
import Derived.Test.YtcadknfcahmdcaaGreatDXJ
import Derived.Test.YtcadknfcahmdcaaGreatSTR
namespace Go.Proofs.YtcadknfcahmdcaaGreat
open Go.RowKit Go.Qz Go.Qz.DF
open Go.Qz.DV hiding val run part
set_option linter.unusedVariables false

theorem sb_ext (s : ByteArray) (a b : Nat) : sb (s.extract a b) = ((sb s).take b).drop a := by
  unfold sb
  rw [ByteArray.data_extract, Array.toList_extract, List.extract_eq_take_drop, List.drop_take, List.map_take, List.map_drop]
theorem sb_inj {a b : ByteArray} (h : sb a = sb b) : a = b := by rw [← bs_sb a, h, bs_sb]
theorem toList_sb (a b : ByteArray) : (a.toList == b.toList) = decide (sb a = sb b) := by
  rw [ByteArray.toList_eq, ByteArray.toList_eq]
  by_cases h : sb a = sb b
  · have := sb_inj h
    subst this
    simp
  · rw [decide_eq_false h]
    have h2 : ¬ a.data = b.data := fun e => h (by unfold sb; rw [e])
    simp [h2]
set_option maxRecDepth 100000 in
theorem hasPre0 (s p : ByteArray) (hs : s.size < 1000000) (hp : p.size < 1000000) (w : World) :
    Calls Tryz.prog 54 #[.string s, .string p] w fun e w' => e = .returned (.bool (decide ((sb s).take p.size = sb p))) ∧ w = w' := by
  by_cases h : p.size ≤ s.size
  · have h1 : (p.size : Int) ≤ (s.size : Int) := by omega
    have he := toList_sb (s.extract 0 p.size) p
    rw [sb_ext, List.drop_zero] at he
    have HE := Lib.hid he
    clear he
    go_enter Tryz.func54, Tryz.ntmps54
    go_wp2_with fail
    go_ret
    exact ⟨congrArg (fun b => Ending.returned (Value.bool b)) HE.out, rfl⟩
  · have h1 : ((p.size : Int) ≤ (s.size : Int)) = False := by simp; omega
    have h2 : ¬ (sb s).take p.size = sb p := fun e => by
      have := congrArg List.length e
      rw [List.length_take, sb_len, sb_len] at this
      omega
    have H2 := Lib.hid h2
    clear h2
    go_enter Tryz.func54, Tryz.ntmps54
    go_wp2_with fail
    go_ret
    exact ⟨by rw [decide_eq_false H2.out]; rfl, rfl⟩
set_option maxRecDepth 100000 in
theorem hasPre (s p : ByteArray) (hs : s.size < 1000000) (hp : p.size < 1000000) (w : World) :
    Calls Tryz.prog 31 #[.string s, .string p] w fun e w' => e = .returned (.bool (decide ((sb s).take p.size = sb p))) ∧ w = w' := by
  have H := Lib.hid (hasPre0 s p hs hp w)
  obtain ⟨b, hb⟩ : ∃ b, b = decide ((sb s).take p.size = sb p) := ⟨_, rfl⟩
  rw [← hb] at H ⊢
  clear hb
  go_enter Tryz.func31, Tryz.ntmps31
  go_wp2_with fail
  refine H.out.mono ?_
  rintro e w1 ⟨rfl, rfl⟩
  go_wp2_with fail
  go_ret
  exact ⟨rfl, rfl⟩
set_option maxRecDepth 100000 in
theorem hasSuf0 (s p : ByteArray) (hs : s.size < 1000000) (hp : p.size < 1000000) (w : World) :
    Calls Tryz.prog 55 #[.string s, .string p] w fun e w' => e = .returned (.bool (decide (p.size ≤ s.size ∧ (sb s).drop (s.size - p.size) = sb p))) ∧ w = w' := by
  by_cases h : p.size ≤ s.size
  · have h1 : (p.size : Int) ≤ (s.size : Int) := by omega
    obtain ⟨k, hk⟩ : ∃ k, k = s.size - p.size := ⟨_, rfl⟩
    have hw : IntKind.i64.wrap ((s.size : Int) - (p.size : Int)) = (k : Int) := by rw [IntKind.wrap_i64]; omega
    have hks : k ≤ s.size := by omega
    have he := toList_sb (s.extract k s.size) p
    rw [sb_drop] at he
    have HE : Hid (((s.extract k s.size).toList == p.toList) = decide (p.size ≤ s.size ∧ (sb s).drop (s.size - p.size) = sb p)) := Lib.hid (by rw [he, ← hk]; simp [h])
    clear he hk
    go_enter Tryz.func55, Tryz.ntmps55
    go_wp2_with fail
    go_ret
    exact ⟨congrArg (fun b => Ending.returned (Value.bool b)) HE.out, rfl⟩
  · have h1 : ((p.size : Int) ≤ (s.size : Int)) = False := by simp; omega
    have H2 := Lib.hid h
    clear h
    go_enter Tryz.func55, Tryz.ntmps55
    go_wp2_with fail
    go_ret
    exact ⟨by rw [decide_eq_false (fun e => H2.out e.1)]; rfl, rfl⟩
set_option maxRecDepth 100000 in
theorem hasSuf (s p : ByteArray) (hs : s.size < 1000000) (hp : p.size < 1000000) (w : World) :
    Calls Tryz.prog 32 #[.string s, .string p] w fun e w' => e = .returned (.bool (decide (p.size ≤ s.size ∧ (sb s).drop (s.size - p.size) = sb p))) ∧ w = w' := by
  have H := Lib.hid (hasSuf0 s p hs hp w)
  obtain ⟨b, hb⟩ : ∃ b, b = decide (p.size ≤ s.size ∧ (sb s).drop (s.size - p.size) = sb p) := ⟨_, rfl⟩
  rw [← hb] at H ⊢
  clear hb
  go_enter Tryz.func32, Tryz.ntmps32
  go_wp2_with fail
  refine H.out.mono ?_
  rintro e w1 ⟨rfl, rfl⟩
  go_wp2_with fail
  go_ret
  exact ⟨rfl, rfl⟩
set_option maxRecDepth 100000 in
theorem randomize (i k : Nat) (hk : i = k + 1) (hi : i < 100000) (w : World) : Calls Tryz.prog 44 #[.int .i64 i] w fun e w' => e = .returned (.int .u8 (padAt k : Nat)) ∧ w = w' := by
  obtain ⟨N, hN⟩ : ∃ N, N = 149 * i := ⟨_, rfl⟩
  obtain ⟨r, hr⟩ : ∃ r, r = N % 253 := ⟨_, rfl⟩
  obtain ⟨r1, hr1⟩ : ∃ r1, r1 = r + 1 := ⟨_, rfl⟩
  obtain ⟨t, ht⟩ : ∃ t, t = 129 + r1 := ⟨_, rfl⟩
  have q1 : IntKind.i64.wrap (149 * (i : Int)) = (N : Int) := by rw [IntKind.wrap_i64]; omega
  have q2 : (N : Int).tmod 253 = (r : Int) := by rw [Int.tmod_eq_emod_of_nonneg (by omega)]; omega
  have q2a : (N : Int) % 253 = (r : Int) := by omega
  have q3 : IntKind.i64.wrap ((r : Int) + 1) = (r1 : Int) := by rw [IntKind.wrap_i64]; omega
  have q4 : IntKind.i64.wrap (129 + (r1 : Int)) = (t : Int) := by rw [IntKind.wrap_i64]; omega
  have hP : padAt k = if t ≤ 254 then t else t - 254 := by unfold padAt; rw [← hk, ← hN, ← hr, ← hr1, ← ht]
  have HP := Lib.hid hP
  have htb : t ≤ 383 := by omega
  by_cases h : t ≤ 254
  · have hi' : ((t : Int) ≤ 254) = True := by simp; omega
    have q5 : IntKind.u8.wrap (t : Int) = (t : Int) := by rw [IntKind.wrap_u8]; omega
    have H := Lib.hid h
    clear hN hr hr1 ht hP h hk
    go_enter Tryz.func44, Tryz.ntmps44
    go_wp2_with fail
    go_ret
    exact ⟨by rw [HP.out, if_pos H.out]; rfl, rfl⟩
  · have hi' : ((t : Int) ≤ 254) = False := by simp; omega
    obtain ⟨t2, ht2⟩ : ∃ t2, t2 = t - 254 := ⟨_, rfl⟩
    have q6 : IntKind.i64.wrap ((t : Int) - 254) = (t2 : Int) := by rw [IntKind.wrap_i64]; omega
    have q5 : IntKind.u8.wrap (t2 : Int) = (t2 : Int) := by rw [IntKind.wrap_u8]; omega
    have H := Lib.hid h
    have H2 := Lib.hid ht2
    clear hN hr hr1 ht hP h hk ht2
    go_enter Tryz.func44, Tryz.ntmps44
    go_wp2_with fail
    go_ret
    exact ⟨by rw [HP.out, if_neg H.out, ← H2.out]; rfl, rfl⟩
set_option maxRecDepth 100000 in
theorem newAscii (w : World) : Calls Tryz.prog 22 #[] w fun e w' => e = .returned (.iface 81 (.agg #[])) ∧ w = w' := by
  go_enter Tryz.func22, Tryz.ntmps22
  go_wp2_with fail
  go_ret
  exact ⟨rfl, rfl⟩
set_option maxRecDepth 100000 in
theorem newX12 (w : World) : Calls Tryz.prog 25 #[] w fun e w' => e = .returned (.iface 86 (.agg #[])) ∧ w = w' := by
  go_enter Tryz.func25, Tryz.ntmps25
  go_wp2_with fail
  go_ret
  exact ⟨rfl, rfl⟩
set_option maxRecDepth 100000 in
theorem newEdi (w : World) : Calls Tryz.prog 26 #[] w fun e w' => e = .returned (.iface 87 (.agg #[])) ∧ w = w' := by
  go_enter Tryz.func26, Tryz.ntmps26
  go_wp2_with fail
  go_ret
  exact ⟨rfl, rfl⟩
set_option maxRecDepth 100000 in
theorem newB256 (w : World) : Calls Tryz.prog 27 #[] w fun e w' => e = .returned (.iface 88 (.agg #[])) ∧ w = w' := by
  go_enter Tryz.func27, Tryz.ntmps27
  go_wp2_with fail
  go_ret
  exact ⟨rfl, rfl⟩
/-- A new encoder of C40 or Text. -/
def NewC (m F : Nat) (w : World) (e : Ending) (w' : World) : Prop := ∃ cb, e = .returned (.iface 82 (.pointer (some ⟨cb, 0, none⟩))) ∧ Hid (EncA w' cb m F) ∧ Hid (Same w w') ∧ Hid (w.heap.size ≤ cb)
set_option maxRecDepth 100000 in
theorem newC40 (w : World) : Calls Tryz.prog 23 #[] w (NewC 1 52 w) := by
  go_enter Tryz.func23, Tryz.ntmps23
  go_wp2_with fail
  go_ret
  exact ⟨w.heap.size, rfl, Lib.hid (by unfold EncA; exact Arr.new _ _ _), Lib.hid (Mod.alloc (Mod.refl _) _), Lib.hid (Nat.le_refl _)⟩
set_option maxRecDepth 100000 in
theorem newText (w : World) : Calls Tryz.prog 24 #[] w (NewC 2 53 w) := by
  go_enter Tryz.func24, Tryz.ntmps24
  go_wp2_with fail
  go_ret
  exact ⟨w.heap.size, rfl, Lib.hid (by unfold EncA; exact Arr.new _ _ _), Lib.hid (Mod.alloc (Mod.refl _) _), Lib.hid (Nat.le_refl _)⟩
end Go.Proofs.YtcadknfcahmdcaaGreat
