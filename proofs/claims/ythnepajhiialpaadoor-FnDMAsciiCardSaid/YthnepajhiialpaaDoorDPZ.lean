/-
  Pads behind words, and what one segment says, walked. No condition beyond the bounds that each theorem states.
-/
import Derived.Test.YthnepajhiialpaaDoorDAY
namespace Go.Proofs.YthnepajhiialpaaDoor
open Go.RowKit Go.Qz Go.Qz.DW
set_option linter.unusedVariables false

set_option maxRecDepth 100000 in
set_option maxHeartbeats 3200000 in
theorem saidOne (m : Nat) (s : ByteArray) (hs : s.size < 10000) (b : Nat) (w : World) (h : Seg w b m s) :
    Calls Tryd.prog 10 #[.slice (some ⟨b, 0, none⟩) 1 1] w fun e w' => e = .returned (.string s) ∧ Below w.heap.size w w' := by
  have HS := Lib.hid h
  clear h
  go_enter Tryd.func10, Tryd.ntmps10
  go_wp2_with fail
  go_loopw [3, 8] (fun v i wr => ∃ q : Nat, q ≤ 1 ∧ i = .int .i64 q ∧ Hid (q = 0 → v = .string ⟨#[]⟩) ∧ Hid (q = 1 → v = .string s) ∧ Hid (Below w.heap.size w wr)) (fun _ i _ => 1 - (intOf i).toNat)
  case atStart => exact ⟨0, by omega, rfl, Lib.hid (fun _ => rfl), Lib.hid (fun h => by cases h), Lib.hid (Below.refl _ _)⟩
  case round =>
    obtain ⟨q, hq, rfl, HV, HO, HBE⟩ := hrel
    obtain ⟨wi, hwi⟩ : ∃ wi, wi = wr := ⟨_, rfl⟩
    rw [← hwi] at HBE ⊢
    clear hwi
    by_cases hlt : q = 0
    · subst hlt
      have hv := HV.out rfl
      subst hv
      obtain ⟨c0, c1⟩ := (HS.out.below HBE.out).cells
      have HB1 : Hid (Below w.heap.size w (wi.alloc (.cells #[.int .i64 (m : Nat), .string s] 24))) := Lib.hid (HBE.out.alloc HBE.out.size _)
      have hcat : (⟨#[]⟩ : ByteArray) ++ s = s := ByteArray.empty_append
      have hsz : (9223372036854775807 < (⟨#[]⟩ : ByteArray).size + s.size) = False := by
        have : (⟨#[]⟩ : ByteArray).size = 0 := rfl
        rw [this]; simp; omega
      clear HV HO
      go_wp2_with fail
      go_roundw
      case rel => exact ⟨1, by omega, by go_num, Lib.hid (fun h => by cases h), Lib.hid (fun _ => by simp), HB1⟩
      case measure => simp [intOf]
    · obtain rfl : q = 1 := by omega
      have hv := HO.out rfl
      subst hv
      go_wp2_with fail
      go_ret
      exact ⟨rfl, HBE.out⟩

/-- Words and what stands behind them. -/
def PadPost (l : List Nat) (n : Nat) (w : World) (e : Ending) (w' : World) : Prop :=
  ∃ v X, e = .returned v ∧ X.length = n ∧ (∃ Y, X = l ++ 129 :: Y) ∧ (∀ x ∈ X, x < 256) ∧ w'.ownsRow w.heap.size 5 1 v n (u8l X) ∧ Below w.heap.size w w'
set_option maxRecDepth 100000 in
set_option maxHeartbeats 3200000 in
theorem padded (l : List Nat) (m c n : Nat) (hm : m = l.length) (hmn : m < n) (hn : n < 10000) (hl : ∀ x ∈ l, x < 256) (A : Option Addr) (w : World) (h : Rd w A m (fun j => .int .u8 (nth l j : Nat))) :
    Calls Tryd.prog 9 #[.slice A m c, .int .i64 n] w (PadPost l n w) := by
  have HR := Lib.hid h
  have HM := Lib.hid hm
  have HL := Lib.hid hl
  clear h hm hl
  go_enter Tryd.func9, Tryd.ntmps9
  have hb0 : ∀ W, (Instr.buildSlice 27 0 #[]).run Tryd.prog W = .ok (.slice (some ⟨W.heap.size, 0, none⟩) 0 0) (W.alloc (.cells #[] 5)) := fun W => by kernel_rfl
  have HB0 : Hid (Below w.heap.size w (w.alloc (.cells #[] 5))) := Lib.hid ((Below.refl _ _).alloc (Nat.le_refl _) _)
  have HO0 : Hid ((w.alloc (.cells #[] 5)).ownsRow w.heap.size 5 1 (.slice (some ⟨w.heap.size, 0, none⟩) 0 0) 0 []) := Lib.hid (own_make0 w 5 (.int .u8 0) 0 w.heap.size (Nat.le_refl _) (Nat.zero_le _))
  have HR0 := Lib.hid (HR.out.alloc (.cells #[] 5))
  go_wp2_with (at_builtin; refine wpList_copyTo _ _ 27 w.heap.size 5 (.int .u8 0) 1 _ 0 [] A m _ _ rfl rfl rfl rfl Tryd.underlying27 Tryd.infoU8W rfl (fun _ _ => rfl) (by decide) HO0.out HR0.out (by omega) HB0.out.size ?_)
  intro v1 w1 hown1 hg1 hb1
  obtain ⟨A1, c1, rfl, _, _, _⟩ := Rd.of_own hown1
  have HO1 : Hid (w1.ownsRow w.heap.size 5 1 (.slice A1 m c1) m (u8l l)) := Lib.hid (by
    have h := hown1
    have e : (List.range m).map (fun j => Value.int .u8 (nth l j : Nat)) = u8l l := by rw [HM.out]; exact range_u8 l
    rw [e] at h; exact h)
  have HB1 : Hid (Below w.heap.size w w1) := Lib.hid (HB0.out.trans hb1)
  clear hown1 hg1 hb1 HR0 HO0 HB0 HR hb0
  go_wp2_with fail
  go_loopw [5] (fun v wr => ∃ (k : Nat) (A2 : Option Addr) (c2 : Nat) (X : List Nat), m ≤ k ∧ k ≤ n ∧ v = .slice A2 k c2 ∧ Hid (X.length = k) ∧ Hid (k = m → X = l) ∧ Hid (m < k → ∃ Y, X = l ++ 129 :: Y) ∧ Hid (∀ x ∈ X, x < 256) ∧ Hid (wr.ownsRow w.heap.size 5 1 v k (u8l X)) ∧ Hid (Below w.heap.size w wr)) (fun v _ => n - (match v with | .slice _ k _ => k | _ => 0))
  case atStart => exact ⟨m, A1, c1, l, Nat.le_refl _, by omega, rfl, Lib.hid HM.out.symm, Lib.hid (fun _ => rfl), Lib.hid (fun h => absurd h (Nat.lt_irrefl _)), HL, HO1, HB1⟩
  case round =>
    obtain ⟨k, A2, c2, X, hk1, hk2, rfl, HXL, HXE, HXY, HX, HO, HBE⟩ := hrel
    clear HO1 HB1
    obtain ⟨wi, hwi⟩ : ∃ wi, wi = wr := ⟨_, rfl⟩
    rw [← hwi] at HO HBE ⊢
    clear hwi
    by_cases hlt : k < n
    · have hlt1 : (k : Int) < (n : Int) := by omega
      have hpush : ∀ (y : Nat) (v' : Value) (w2 : World), y < 256 → (k = m → y = 129) → w2.ownsRow w.heap.size 5 1 v' (k + 1) (u8l X ++ [.int .u8 (y : Nat)]) → Below w.heap.size wi w2 → ∃ (A3 : Option Addr) (c3 : Nat) (X3 : List Nat), v' = .slice A3 (k + 1) c3 ∧ Hid (X3.length = k + 1) ∧ Hid (k + 1 = m → X3 = l) ∧ Hid (m < k + 1 → ∃ Y, X3 = l ++ 129 :: Y) ∧ Hid (∀ x ∈ X3, x < 256) ∧ Hid (w2.ownsRow w.heap.size 5 1 v' (k + 1) (u8l X3)) ∧ Hid (Below w.heap.size w w2) := fun y v' w2 hy hy2 ho hb => by
        obtain ⟨A3, c3, rfl, _, _, _⟩ := Rd.of_own ho
        refine ⟨A3, c3, X ++ [y], rfl, Lib.hid (by rw [List.length_append, HXL.out]; rfl), Lib.hid (fun h => by omega), Lib.hid (fun _ => ?_), Lib.hid (fun x hx => ?_), Lib.hid (by rw [u8l_snoc]; exact ho), Lib.hid (HBE.out.trans hb)⟩
        · by_cases h : k = m
          · exact ⟨[], by rw [HXE.out h, hy2 h]⟩
          · obtain ⟨Y, hY⟩ := HXY.out (by omega)
            exact ⟨Y ++ [y], by rw [hY]; simp⟩
        · rcases List.mem_append.1 hx with h | h
          · exact HX.out x h
          · rw [List.mem_singleton.1 h]; exact hy
      have HP := Lib.hid hpush
      clear hpush
      by_cases hkm : k = m
      · have hkm1 : ((m : Int) < (k : Int)) = False := by simp; omega
        have HKM := Lib.hid hkm
        clear hkm
        go_wp2_with (at_builtin; refine wpList_push _ _ 27 w.heap.size 5 (.int .u8 0) 1 _ k _ (.int .u8 ((129 : Nat) : Int)) rfl rfl rfl rfl Tryd.underlying27 Tryd.infoU8W rfl rfl (by decide) HO.out (by omega) HBE.out.size ?_)
        intro v' w2 hown2 hg2 hb2
        obtain ⟨A3, c3, X3, rfl, h1, h2, h3, h4, h5, h6⟩ := HP.out 129 v' w2 (by omega) (fun _ => rfl) hown2 hb2
        clear hown2 hg2 hb2
        go_wp2_with fail
        go_roundw
        case rel => exact ⟨k + 1, A3, c3, X3, by omega, by omega, rfl, h1, h2, h3, h4, h5, h6⟩
        case measure => simp; omega
      · have hkm1 : (m : Int) < (k : Int) := by omega
        obtain ⟨p, hp⟩ : ∃ x, x = k + 1 := ⟨_, rfl⟩
        obtain ⟨a, ha⟩ : ∃ x, x = 149 * p := ⟨_, rfl⟩
        obtain ⟨b, hb⟩ : ∃ x, x = a % 253 := ⟨_, rfl⟩
        obtain ⟨c', hc'⟩ : ∃ x, x = b + 1 := ⟨_, rfl⟩
        obtain ⟨d, hd⟩ : ∃ x, x = 129 + c' := ⟨_, rfl⟩
        have e1 : (k : Int) + 1 = (p : Int) := by omega
        have e2 : (149 : Int) * (p : Int) = (a : Int) := by omega
        have e3 : (a : Int) % 253 = (b : Int) := by omega
        have e3' : (a : Int).tmod 253 = (b : Int) := by rw [Int.tmod_eq_emod_of_nonneg (by omega)]; omega
        have e4 : (b : Int) + 1 = (c' : Int) := by omega
        have e5 : (129 : Int) + (c' : Int) = (d : Int) := by omega
        have hab : a < 2000000 := by omega
        have hbb : b < 253 := by omega
        have hdb : d ≤ 382 := by omega
        have HPP := Lib.hid hp
        have HKM := Lib.hid hkm
        clear hp ha hb hc' hd hkm
        by_cases h254 : 254 < d
        · have h255 : (254 : Int) < (d : Int) := by omega
          obtain ⟨f, hf⟩ : ∃ x, x = d - 254 := ⟨_, rfl⟩
          have e6 : (d : Int) - 254 = (f : Int) := by omega
          have hfb : f < 256 := by omega
          clear hf
          go_wp2_with (at_builtin; refine wpList_push _ _ 27 w.heap.size 5 (.int .u8 0) 1 _ k _ (.int .u8 (f : Nat)) rfl rfl rfl rfl Tryd.underlying27 Tryd.infoU8W rfl rfl (by decide) HO.out (by omega) HBE.out.size ?_)
          intro v' w2 hown2 hg2 hb2
          obtain ⟨A3, c3, X3, rfl, h1, h2, h3, h4, h5, h6⟩ := HP.out f v' w2 hfb (fun h => absurd h HKM.out) hown2 hb2
          clear hown2 hg2 hb2
          go_wp2_with fail
          go_roundw
          case rel => exact ⟨k + 1, A3, c3, X3, by omega, by omega, rfl, h1, h2, h3, h4, h5, h6⟩
          case measure => simp; omega
        · have h255 : ((254 : Int) < (d : Int)) = False := by simp; omega
          have hfb : d < 256 := by omega
          go_wp2_with (at_builtin; refine wpList_push _ _ 27 w.heap.size 5 (.int .u8 0) 1 _ k _ (.int .u8 (d : Nat)) rfl rfl rfl rfl Tryd.underlying27 Tryd.infoU8W rfl rfl (by decide) HO.out (by omega) HBE.out.size ?_)
          intro v' w2 hown2 hg2 hb2
          obtain ⟨A3, c3, X3, rfl, h1, h2, h3, h4, h5, h6⟩ := HP.out d v' w2 hfb (fun h => absurd h HKM.out) hown2 hb2
          clear hown2 hg2 hb2
          go_wp2_with fail
          go_roundw
          case rel => exact ⟨k + 1, A3, c3, X3, by omega, by omega, rfl, h1, h2, h3, h4, h5, h6⟩
          case measure => simp; omega
    · obtain rfl : k = n := by omega
      have hkk : ((k : Int) < (k : Int)) = False := by simp
      go_wp2_with fail
      go_ret
      exact ⟨_, X, rfl, HXL.out, HXY.out hmn, HX.out, HO.out, HBE.out⟩
end Go.Proofs.YthnepajhiialpaaDoor
