/-
  Data Matrix words of one segment, and pads behind them, walked. No condition beyond the bounds that each theorem states.
-/
import Derived.Test.YthnepajhiialpaaDoorDAX
namespace Go.Proofs.YthnepajhiialpaaDoor
open Go.RowKit Go.Qz Go.Qz.DW
set_option linter.unusedVariables false

theorem words_len (m : Nat) (L : List Nat) : (words m L).length ≤ 2 * L.length + 4 := by
  unfold words
  have h1 := asc_len _ L (Nat.le_refl _)
  split
  · omega
  · unfold wx
    have h2 := tris_len _ ((L.take (3 * (L.length / 3))).map xv) (Nat.le_refl _)
    have h3 := asc_len _ (L.drop (3 * (L.length / 3))) (Nat.le_refl _)
    simp only [List.length_map, List.length_take, List.length_drop] at h2 h3
    simp only [List.length_append, List.length_cons, List.length_nil]
    omega
/-- One segment in memory. -/
def Seg (w : World) (b m : Nat) (s : ByteArray) : Prop := Arr w 24 b [.int .i64 (m : Nat), .string s]
theorem Seg.cells {w : World} {b m : Nat} {s : ByteArray} (h : Seg w b m s) : w.cell? ⟨b, 0, none⟩ = some (.int .i64 (m : Nat)) ∧ w.cell? ⟨b, 1, none⟩ = some (.string s) := by
  unfold Seg at h
  have d0 := h.cell? 0
  have d1 := h.cell? 1
  simp only [List.getElem?_cons_zero, List.getElem?_cons_succ] at d0 d1
  exact ⟨d0, d1⟩
theorem Seg.below {w w' : World} {b m : Nat} {s : ByteArray} (h : Seg w b m s) (hb : Below w.heap.size w w') : Seg w' b m s := Arr.below h hb (Arr.lt h)
theorem str_nil (s : ByteArray) : s.toList.isEmpty = decide (s.size = 0) := by
  apply Bool.eq_iff_iff.2
  rw [List.isEmpty_iff, decide_eq_true_iff, ByteArray.toList_eq]
  constructor
  · intro h
    have := congrArg List.length h
    simpa using this
  · intro h
    have : s.data.toList.length = 0 := by rw [Array.length_toList]; exact h
    exact List.eq_nil_of_length_eq_zero this
set_option maxRecDepth 100000 in
set_option maxHeartbeats 3200000 in
theorem scriptWords (m : Nat) (hm : m = 0 ∨ m = 3) (s : ByteArray) (hs : s.size < 10000) (hb : ∀ j, j < s.size → nth (sb s) j < 128 ∧ (m = 3 → xok (nth (sb s) j) = true)) (b : Nat) (w : World) (h : Seg w b m s) :
    Calls Tryd.prog 12 #[.slice (some ⟨b, 0, none⟩) 1 1] w (RowPost (words m (sb s)) w) := by
  have HB := Lib.hid hb
  have HS := Lib.hid h
  have HM := Lib.hid hm
  have HSN := Lib.hid (str_nil s)
  clear hb h hm
  go_enter Tryd.func12, Tryd.ntmps12
  go_wp2_with fail
  go_loopw [3, 8] (fun v i wr => ∃ q : Nat, q ≤ 1 ∧ i = .int .i64 q ∧ Hid (q = 0 → v = .slice none 0 0) ∧ Hid (q = 1 → wr.ownsRow w.heap.size 5 1 v (words m (sb s)).length (u8l (words m (sb s)))) ∧ Hid (Below w.heap.size w wr)) (fun _ i _ => 1 - (intOf i).toNat)
  case atStart => exact ⟨0, by omega, rfl, Lib.hid (fun _ => rfl), Lib.hid (fun h => by cases h), Lib.hid (Below.refl _ _)⟩
  case round =>
    obtain ⟨q, hq, rfl, HV, HO, HBE⟩ := hrel
    obtain ⟨wi, hwi⟩ : ∃ wi, wi = wr := ⟨_, rfl⟩
    rw [← hwi] at HO HBE ⊢
    clear hwi
    by_cases hlt : q = 0
    · subst hlt
      have hv := HV.out rfl
      subst hv
      obtain ⟨c0, c1⟩ := (HS.out.below HBE.out).cells
      obtain ⟨W1, hW1⟩ : ∃ W1, W1 = wi.alloc (.cells #[.int .i64 (m : Nat), .string s] 24) := ⟨_, rfl⟩
      have HB1 : Hid (Below w.heap.size w W1) := Lib.hid (by rw [hW1]; exact HBE.out.alloc HBE.out.size _)
      have HSG : Hid (Seg W1 wi.heap.size m s) := Lib.hid (by rw [hW1]; exact Arr.new _ _ _)
      obtain ⟨E, hE⟩ : ∃ E, E = wi.heap.size := ⟨_, rfl⟩
      rw [← hE] at HSG
      clear HV HO
      obtain ⟨d0, d1⟩ := HSG.out.cells
      by_cases h0 : s.size = 0
      · have hsn : s.toList.isEmpty = true := by rw [HSN.out]; simp [h0]
        have HW : Hid (words m (sb s) = []) := Lib.hid (by
          have : sb s = [] := List.eq_nil_of_length_eq_zero (by rw [sb_len]; exact h0)
          rw [this]; unfold words; rw [if_pos (.inr (by simp))]; rfl)
        go_wp2_with fail
        rw [← hW1]
        go_roundw
        case rel => exact ⟨1, by omega, by go_num, Lib.hid (fun h => by cases h), Lib.hid (fun _ => by rw [HW.out]; exact World.ownsRow_nil _ _ _ _), HB1⟩
        case measure => simp [intOf]
      · have hsn : s.toList.isEmpty = false := by rw [HSN.out]; simp [h0]
        have hCALL : ∀ (v2 : Value) (w2 : World), w2.ownsRow W1.heap.size 5 1 v2 (words m (sb s)).length (u8l (words m (sb s))) → Below W1.heap.size W1 w2 → ∃ A c, v2 = .slice A (words m (sb s)).length c ∧ Rd w2 A (words m (sb s)).length (fun j => .int .u8 (nth (words m (sb s)) j : Nat)) ∧ Below w.heap.size w w2 := fun v2 w2 ho hb2 => by
          obtain ⟨_, A, c, rfl, _, hr, _⟩ := rowRd ho
          exact ⟨A, c, rfl, hr, HB1.out.trans (hb2.mono HB1.out.size)⟩
        have HCALL := Lib.hid hCALL
        have hwl := words_len m (sb s)
        rw [sb_len] at hwl
        rcases HM.out with hm0 | hm0
        · have HAW := asciiWords s (by omega) (fun j hj => (HB.out j hj).1) W1
          rw [show asc (sb s) = words m (sb s) from by rw [hm0]; rfl] at HAW
          have HAW := Lib.hid HAW
          have q0 : ((m : Int) == 0) = true := by simp; omega
          have HM0 := Lib.hid hm0
          clear hm0
          obtain ⟨L, hL⟩ : ∃ L, L = words m (sb s) := ⟨_, rfl⟩
          rw [← hL] at HAW HCALL hwl
          obtain ⟨n, hn⟩ : ∃ n, n = L.length := ⟨_, rfl⟩
          rw [← hn] at HCALL hwl
          unfold RowPost at HAW
          rw [← hn] at HAW
          have HN := Lib.hid hn
          have HL := Lib.hid hL
          clear hCALL hn hL
          go_wp2_with fail
          rw [← hW1]
          refine HAW.out.mono ?_
          rintro e w2 ⟨v2, rfl, ho2, hb2⟩
          obtain ⟨A2, c2, rfl, hr2, hb2⟩ := HCALL.out v2 w2 ho2 hb2
          have HB2 := Lib.hid hb2
          have HR2 := Lib.hid hr2
          clear ho2 hb2 hr2
          go_wp2_with (at_builtin; refine wpList_copyTo _ _ 27 w.heap.size 5 (.int .u8 0) 1 _ 0 [] A2 n _ _ rfl rfl rfl rfl Tryd.underlying27 Tryd.infoU8W rfl (fun _ _ => rfl) (by decide) (World.ownsRow_nil _ _ _ _) HR2.out (by omega) HB2.out.size ?_)
          intro v3 w3 hown3 hg3 hb3
          rw [HN.out, range_u8, HL.out] at hown3
          have HO3 := Lib.hid hown3
          have HB3 : Hid (Below w.heap.size w w3) := Lib.hid (HB2.out.trans hb3)
          clear hown3 hg3 hb3
          go_wp2_with fail
          go_roundw
          case rel => exact ⟨1, by omega, by go_num, Lib.hid (fun h => by cases h), Lib.hid (fun _ => HO3.out), HB3⟩
          case measure => simp [intOf]
        · have HAW := threes s (by omega) (fun j hj => ⟨(HB.out j hj).1, (HB.out j hj).2 hm0⟩) W1
          rw [show (3 : Int) = ((m : Nat) : Int) by omega, show words 3 (sb s) = words m (sb s) by rw [hm0]] at HAW
          have HAW := Lib.hid HAW
          have q0 : ((m : Int) == 0) = false := by simp; omega
          have q4 : ((m : Int) == 4) = false := by simp; omega
          have q5 : ((m : Int) == 5) = false := by simp; omega
          have HM0 := Lib.hid hm0
          clear hm0
          obtain ⟨L, hL⟩ : ∃ L, L = words m (sb s) := ⟨_, rfl⟩
          rw [← hL] at HAW HCALL hwl
          obtain ⟨n, hn⟩ : ∃ n, n = L.length := ⟨_, rfl⟩
          rw [← hn] at HCALL hwl
          unfold RowPost at HAW
          rw [← hn] at HAW
          have HN := Lib.hid hn
          have HL := Lib.hid hL
          clear hCALL hn hL
          go_wp2_with fail
          rw [← hW1]
          refine HAW.out.mono ?_
          rintro e w2 ⟨v2, rfl, ho2, hb2⟩
          obtain ⟨A2, c2, rfl, hr2, hb2⟩ := HCALL.out v2 w2 ho2 hb2
          have HB2 := Lib.hid hb2
          have HR2 := Lib.hid hr2
          clear ho2 hb2 hr2
          go_wp2_with (at_builtin; refine wpList_copyTo _ _ 27 w.heap.size 5 (.int .u8 0) 1 _ 0 [] A2 n _ _ rfl rfl rfl rfl Tryd.underlying27 Tryd.infoU8W rfl (fun _ _ => rfl) (by decide) (World.ownsRow_nil _ _ _ _) HR2.out (by omega) HB2.out.size ?_)
          intro v3 w3 hown3 hg3 hb3
          rw [HN.out, range_u8, HL.out] at hown3
          have HO3 := Lib.hid hown3
          have HB3 : Hid (Below w.heap.size w w3) := Lib.hid (HB2.out.trans hb3)
          clear hown3 hg3 hb3
          go_wp2_with fail
          go_roundw
          case rel => exact ⟨1, by omega, by go_num, Lib.hid (fun h => by cases h), Lib.hid (fun _ => HO3.out), HB3⟩
          case measure => simp [intOf]
    · obtain rfl : q = 1 := by omega
      have hoo := HO.out rfl
      have HOO := Lib.hid hoo
      clear hoo
      go_wp2_with fail
      go_ret
      exact ⟨_, rfl, HOO.out, HBE.out⟩

/-- What the script of one segment is. -/
def ScriptPost (m : Nat) (s : ByteArray) (w : World) (e : Ending) (w' : World) : Prop :=
  ∃ A n c r, e = .returned (.tuple #[.slice A n c, .bool r]) ∧ Below w.heap.size w w' ∧ n < 100000 ∧ (r = true → n = (words m (sb s)).length ∧ s.size ≤ 1555 ∧ (∀ j, j < s.size → nth (sb s) j < 128 ∧ (m = 3 → xok (nth (sb s) j) = true)) ∧ Hid (Rd w' A n (fun j => .int .u8 (nth (words m (sb s)) j : Nat))))
set_option maxRecDepth 100000 in
set_option maxHeartbeats 3200000 in
theorem dmScript (m : Nat) (hm : m = 0 ∨ m = 3) (s : ByteArray) (hs : s.size < 4294967296) (b : Nat) (w : World) (h : Seg w b m s) :
    Calls Tryd.prog 6 #[.slice (some ⟨b, 0, none⟩) 1 1] w (ScriptPost m s w) := by
  have HS := Lib.hid h
  have HM := Lib.hid hm
  have m5 : (m : Int) ≤ 5 := by omega
  clear h hm
  go_enter Tryd.func6, Tryd.ntmps6
  go_wp2_with fail
  go_loopw [11] (fun i wr => ∃ q : Nat, q ≤ 1 ∧ i = .int .i64 q ∧ Hid (q = 1 → s.size ≤ 1555 ∧ ∀ j, j < s.size → nth (sb s) j < 128 ∧ (m = 3 → xok (nth (sb s) j) = true)) ∧ Hid (Below w.heap.size w wr)) (fun i _ => 1 - (intOf i).toNat)
  case atStart => exact ⟨0, by omega, rfl, Lib.hid (fun h => by cases h), Lib.hid (Below.refl _ _)⟩
  case round =>
    obtain ⟨q, hq, rfl, HO, HBE⟩ := hrel
    obtain ⟨wi, hwi⟩ : ∃ wi, wi = wr := ⟨_, rfl⟩
    rw [← hwi] at HBE ⊢
    clear hwi
    by_cases hlt : q = 0
    · subst hlt
      obtain ⟨c0, c1⟩ := (HS.out.below HBE.out).cells
      obtain ⟨W1, hW1⟩ : ∃ W1, W1 = wi.alloc (.cells #[.int .i64 (m : Nat), .string s] 24) := ⟨_, rfl⟩
      have HB1 : Hid (Below w.heap.size w W1) := Lib.hid (by rw [hW1]; exact HBE.out.alloc HBE.out.size _)
      have HSG : Hid (Seg W1 wi.heap.size m s) := Lib.hid (by rw [hW1]; exact Arr.new _ _ _)
      obtain ⟨E, hE⟩ : ∃ E, E = wi.heap.size := ⟨_, rfl⟩
      rw [← hE] at HSG
      clear HO
      obtain ⟨d0, d1⟩ := HSG.out.cells
      have HIN := Lib.hid (inMode m HM.out s hs W1)
      go_wp2_with fail
      rw [← hW1, ← hE]
      refine HIN.out.mono ?_
      rintro e w2 ⟨r, rfl, hr, rfl⟩
      have HR := Lib.hid hr
      clear hr HIN hW1 hE
      cases r with
      | false =>
        go_wp2_with fail
        go_ret2
        exact ⟨_, _, _, _, rfl, HB1.out, by omega, fun h => by cases h⟩
      | true =>
        by_cases h15 : (1555 : Int) < (s.size : Int)
        · have d15 : decide ((1555 : Int) < (s.size : Int)) = true := by simpa using h15
          go_wp2_with fail
          go_ret2
          exact ⟨_, _, _, _, rfl, HB1.out, by omega, fun h => by cases h⟩
        · have d15 : decide ((1555 : Int) < (s.size : Int)) = false := by simpa using h15
          have d16 : ((1555 : Int) < (s.size : Int)) = False := by simpa using h15
          have H15 := Lib.hid h15
          clear h15
          go_wp2_with fail
          go_roundw
          case rel => exact ⟨1, by omega, by go_num, Lib.hid (fun _ => ⟨by have := H15.out; omega, HR.out trivial⟩), HB1⟩
          case measure => simp [intOf]
    · obtain rfl : q = 1 := by omega
      obtain ⟨hl, hb⟩ := HO.out rfl
      have HSW := Lib.hid (scriptWords m HM.out s (by omega) hb b wi (HS.out.below HBE.out))
      have HBB := Lib.hid hb
      clear hb
      go_wp2_with fail
      refine HSW.out.mono ?_
      rintro e w2 ⟨v2, rfl, ho2, hb2⟩
      obtain ⟨_, A, c, rfl, _, hr, _⟩ := rowRd ho2
      have HR := Lib.hid hr
      have HB2 : Hid (Below w.heap.size w w2) := Lib.hid (HBE.out.trans (hb2.mono HBE.out.size))
      clear ho2 hb2 hr
      go_wp2_with fail
      go_ret2
      exact ⟨A, _, c, true, rfl, HB2.out, by have := words_len m (sb s); rw [sb_len] at this; omega, fun _ => ⟨rfl, hl, HBB.out, HR⟩⟩
end Go.Proofs.YthnepajhiialpaaDoor
