/-
  The reference's words of a symbol: widths, fields, stuffing, words, walked. No condition beyond the bounds that each theorem states.
-/
import Derived.Test.YtiielblnmfeapaaGreatDoorAZH
import Derived.Test.YtiielblnmfeapaaGreatDoorAZG
namespace Go.Proofs.YtiielblnmfeapaaGreatDoor
open Go.RowKit Go.Qz Go.Qz.RS
set_option linter.unusedVariables false

def wOf (l : Nat) : Nat := if l ≤ 2 then 6 else if l ≤ 8 then 8 else if l ≤ 22 then 10 else 12
def fdOf (w : Nat) : Fld := if w = 6 then six 1 else if w = 8 then six 2 else if w = 10 then six 4 else six 5
theorem wOf_cases (l : Nat) : wOf l = 6 ∨ wOf l = 8 ∨ wOf l = 10 ∨ wOf l = 12 := by
  unfold wOf
  split
  · exact .inl rfl
  · split
    · exact .inr (.inl rfl)
    · split
      · exact .inr (.inr (.inl rfl))
      · exact .inr (.inr (.inr rfl))
theorem fdOf_six {w : Nat} (h : w = 6 ∨ w = 8 ∨ w = 10 ∨ w = 12) : Six (fdOf w) ∧ (fdOf w).size = 2 ^ w := by
  rcases h with rfl | rfl | rfl | rfl
  · exact ⟨⟨1, by omega, rfl⟩, rfl⟩
  · exact ⟨⟨2, by omega, rfl⟩, rfl⟩
  · exact ⟨⟨4, by omega, rfl⟩, rfl⟩
  · exact ⟨⟨5, by omega, rfl⟩, rfl⟩

set_option maxRecDepth 100000 in
theorem azWidth (l : Nat) (hl : l ≤ 1000) (w : World) :
    Calls Tryz.prog 10 #[.int .i64 l] w fun e w' => e = .returned (.int .i64 (wOf l : Nat)) ∧ w = w' := by
  by_cases h1 : l ≤ 2
  · have e : wOf l = 6 := by unfold wOf; rw [if_pos h1]
    rw [e]
    have g1 : (l : Int) ≤ 2 := by omega
    clear h1
    go_enter Tryz.func10, Tryz.ntmps10
    go_wp2_with fail
    go_ret
    exact ⟨rfl, rfl⟩
  · have g1 : ((l : Int) ≤ 2) = False := by simp; omega
    by_cases h2 : l ≤ 8
    · have e : wOf l = 8 := by unfold wOf; rw [if_neg h1, if_pos h2]
      rw [e]
      have g2 : (l : Int) ≤ 8 := by omega
      clear h1 h2
      go_enter Tryz.func10, Tryz.ntmps10
      go_wp2_with fail
      go_ret
      exact ⟨rfl, rfl⟩
    · have g2 : ((l : Int) ≤ 8) = False := by simp; omega
      by_cases h3 : l ≤ 22
      · have e : wOf l = 10 := by unfold wOf; rw [if_neg h1, if_neg h2, if_pos h3]
        rw [e]
        have g3 : (l : Int) ≤ 22 := by omega
        clear h1 h2 h3
        go_enter Tryz.func10, Tryz.ntmps10
        go_wp2_with fail
        go_ret
        exact ⟨rfl, rfl⟩
      · have g3 : ((l : Int) ≤ 22) = False := by simp; omega
        have e : wOf l = 12 := by unfold wOf; rw [if_neg h1, if_neg h2, if_neg h3]
        rw [e]
        clear h1 h2 h3
        go_enter Tryz.func10, Tryz.ntmps10
        go_wp2_with fail
        go_ret
        exact ⟨rfl, rfl⟩
def FieldPost (F : Fld) (w : World) (e : Ending) (w' : World) : Prop := e = .returned (fv F) ∧ Below w.heap.size w w'
set_option maxRecDepth 100000 in
set_option maxHeartbeats 1600000 in
theorem azField (v : Nat) (hv : v = 6 ∨ v = 8 ∨ v = 10 ∨ v = 12) (w : World) :
    Calls Tryz.prog 26 #[.int .i64 v] w (FieldPost (fdOf v) w) := by
  rcases hv with rfl | rfl | rfl | rfl
  all_goals
    go_enter Tryz.func26, Tryz.ntmps26
    go_wp2_with fail
    exact bodyPost_ret (v := fv (fdOf _)) (by simp [results, Tryz.results26, go_sem]; rfl) rfl ⟨rfl, (Below.refl _ _).alloc (Nat.le_refl _) _⟩
def bitsIn (c : Bool) (l : Nat) : Nat := ((if c then 88 else 112) + 16 * l) * l
theorem bitsIn_le (c : Bool) (l : Nat) (h : l ≤ 32) : bitsIn c l ≤ 624 * 32 := by
  unfold bitsIn
  exact Nat.mul_le_mul (by split <;> omega) h
set_option maxRecDepth 100000 in
theorem azBits (c : Bool) (l : Nat) (hl : l ≤ 32) (w : World) :
    Calls Tryz.prog 19 #[.bool c, .int .i64 l] w fun e w' => e = .returned (.int .i64 (bitsIn c l : Nat)) ∧ w = w' := by
  have hb := bitsIn_le c l hl
  cases c with
  | true =>
    obtain ⟨m, hm⟩ : ∃ m, m = 88 + 16 * l := ⟨_, rfl⟩
    obtain ⟨x, hx⟩ : ∃ x, x = bitsIn true l := ⟨_, rfl⟩
    have e1 : (88 : Int) + 16 * (l : Int) = (m : Int) := by omega
    have e2 : (m : Int) * (l : Int) = (x : Int) := by rw [hx, hm]; unfold bitsIn; simp
    rw [← hx] at hb ⊢
    clear hm hx
    go_enter Tryz.func19, Tryz.ntmps19
    go_wp2_with fail
    go_ret
    exact ⟨rfl, rfl⟩
  | false =>
    obtain ⟨m, hm⟩ : ∃ m, m = 112 + 16 * l := ⟨_, rfl⟩
    obtain ⟨x, hx⟩ : ∃ x, x = bitsIn false l := ⟨_, rfl⟩
    have e1 : (112 : Int) + 16 * (l : Int) = (m : Int) := by omega
    have e2 : (m : Int) * (l : Int) = (x : Int) := by rw [hx, hm]; unfold bitsIn; simp
    rw [← hx] at hb ⊢
    clear hm hx
    go_enter Tryz.func19, Tryz.ntmps19
    go_wp2_with fail
    go_ret
    exact ⟨rfl, rfl⟩
def layOf (c : Bool) (n : Nat) : Nat := 1 + n % (if c then 4 else 32)
set_option maxRecDepth 100000 in
theorem azLayers (c : Bool) (n : Nat) (hn : n < 256) (w : World) :
    Calls Tryz.prog 4 #[.bool c, .int .u8 n] w fun e w' => e = .returned (.int .i64 (layOf c n : Nat)) ∧ w = w' := by
  cases c with
  | true =>
    obtain ⟨x, hx⟩ : ∃ x, x = layOf true n := ⟨_, rfl⟩
    have e1 : (1 : Int) + (n : Int) % 4 = (x : Int) := by rw [hx]; unfold layOf; simp
    rw [← hx]
    clear hx
    go_enter Tryz.func4, Tryz.ntmps4
    go_wp2_with fail
    go_ret
    exact ⟨rfl, rfl⟩
  | false =>
    obtain ⟨x, hx⟩ : ∃ x, x = layOf false n := ⟨_, rfl⟩
    have e1 : (1 : Int) + (n : Int) % 32 = (x : Int) := by rw [hx]; unfold layOf; simp
    rw [← hx]
    clear hx
    go_enter Tryz.func4, Tryz.ntmps4
    go_wp2_with fail
    go_ret
    exact ⟨rfl, rfl⟩

def StuffPost (L : List Bool) (v : Nat) (w : World) (e : Ending) (w' : World) : Prop := ∃ u ws k, e = .returned u ∧ OwnI w' w.heap.size u ws ∧ Stuff L v 0 ws k ∧ L.length ≤ k ∧ k ≤ L.length + 12 ∧ ws.length ≤ k ∧ Below w.heap.size w w'
theorem bitI_cases (L : List Bool) (j : Nat) : (L.length ≤ j → bitI L j = true) ∧ (j < L.length → bitI L j = nthB L j) := by
  unfold bitI
  exact ⟨fun h => if_neg (by omega), fun h => if_pos h⟩
set_option maxRecDepth 100000 in
set_option maxHeartbeats 6400000 in
theorem azStuff (L : List Bool) (v : Nat) (hv : v = 6 ∨ v = 8 ∨ v = 10 ∨ v = 12) (A : Option Addr) (n c : Nat) (hn : n = L.length) (hnl : n < 1000000) (w : World) (h : Rd w A n (fun j => .bool (nthB L j))) :
    Calls Tryz.prog 9 #[.slice A n c, .int .i64 v] w (StuffPost L v w) := by
  have H := Lib.hid h
  have HN := Lib.hid hn
  obtain ⟨d, hd⟩ : ∃ d, d = v - 1 := ⟨_, rfl⟩
  obtain ⟨P, hP⟩ : ∃ P, P = 2 ^ d := ⟨_, rfl⟩
  have hd1 : (v : Int) - 1 = (d : Int) := by omega
  have hd2 : 5 ≤ d ∧ d ≤ 11 := by omega
  have hd3 : d < 64 := by omega
  have hP1 : 32 ≤ P ∧ P ≤ 2048 := by
    have h1 : 2 ^ 5 ≤ 2 ^ d := Nat.pow_le_pow_right (by omega) hd2.1
    have h2 : 2 ^ d ≤ 2 ^ 11 := Nat.pow_le_pow_right (by omega) hd2.2
    rw [← hP] at h1 h2
    omega
  have hP2 : (2 : Int) ^ d = (P : Int) := by rw [hP]; simp
  have HSTN : Hid (∀ k, stN L v k ≤ v ∧ 0 < stN L v k) := Lib.hid (fun k => by
    obtain ⟨_, _, _, h4, h5⟩ := stW_ok (L := L) (w := v) (i := k) (by omega)
    exact ⟨h5, h4⟩)
  have HWD : Hid (∀ k, (vi L k d = 0 → stW L v k = 1 ∧ stN L v k = d) ∧ (vi L k d ≠ 0 → vi L k d + 1 = P → stW L v k = 2 * vi L k d ∧ stN L v k = d) ∧ (vi L k d ≠ 0 → vi L k d + 1 ≠ P → stW L v k = 2 * vi L k d + (bitI L (k + d)).toNat ∧ stN L v k = d + 1)) := Lib.hid (fun k => by
    have e : v = d + 1 := by omega
    refine ⟨fun h => ?_, fun h1 h2 => ?_, fun h1 h2 => ?_⟩
    · unfold stW stN; rw [← hd, if_pos h, if_pos h]; exact ⟨rfl, rfl⟩
    · have h3 : vi L k d = 2 ^ d - 1 := by rw [← hP]; omega
      unfold stW stN; rw [← hd, if_neg h1, if_pos h3, if_neg h1, if_pos h3]; exact ⟨rfl, rfl⟩
    · have h3 : ¬ vi L k d = 2 ^ d - 1 := by rw [← hP]; omega
      unfold stW stN; rw [← hd, if_neg h1, if_neg h3, if_neg h1, if_neg h3, e]; exact ⟨rfl, rfl⟩)
  have HBI := Lib.hid (bitI_cases L)
  have HVL : Hid (∀ k t, t ≤ d → vi L k t < 2048) := Lib.hid (fun k t ht => by
    have h1 := vi_lt L k t
    have h2 : 2 ^ t ≤ 2 ^ 11 := Nat.pow_le_pow_right (by omega) (by omega)
    omega)
  have hv12 : v ≤ 12 := by omega
  have HDV : Hid (v = d + 1) := Lib.hid (by omega)
  clear h hn hv hd hP
  go_enter Tryz.func9, Tryz.ntmps9
  go_wp2_with fail
  go_loopw [5, 6] (fun u i wr => ∃ (k : Nat) (ws : List Nat), i = .int .i64 k ∧ k ≤ n + 12 ∧ ws.length ≤ k ∧ Hid (OwnI wr w.heap.size u ws) ∧ Hid (Stuff L v 0 ws k) ∧ Hid (Below w.heap.size w wr)) (fun _ i _ => n - (intOf i).toNat)
  case atStart => exact ⟨0, [], rfl, by omega, by simp, Lib.hid (World.ownsRow_nil _ _ _ _), Lib.hid (Stuff.nil 0), Lib.hid (Below.refl _ _)⟩
  case round =>
    obtain ⟨k, ws, rfl, hkn, hwk, HO, HS, HB⟩ := hrel
    obtain ⟨wi, hwi⟩ : ∃ wi, wi = wr := ⟨_, rfl⟩
    rw [← hwi] at HO HB ⊢
    clear hwi
    by_cases hlt : k < n
    · have hki : (k : Int) < (n : Int) := by omega
      have HRD := Lib.hid (H.out.below HB.out)
      go_wp2_with fail
      go_loopw [6, 7, 8] (fun i wd mn wr => ∃ t : Nat, i = .int .i64 ((k + t : Nat) : Int) ∧ wd = .int .i64 (vi L k t : Nat) ∧ mn = .int .i64 t ∧ t ≤ d ∧ wi = wr) (fun _ _ mn _ => d - (intOf mn).toNat)
      case atStart => exact ⟨0, rfl, rfl, rfl, by omega, rfl⟩
      case round =>
        obtain ⟨t, rfl, rfl, rfl, ht, rfl⟩ := hrel
        have hvb := HVL.out k t ht
        obtain ⟨j, hj⟩ : ∃ j, j = k + t := ⟨_, rfl⟩
        by_cases hlt2 : t < d
        · have hti : (t : Int) < (d : Int) := by omega
          have hy : vi L k (t + 1) = 2 * vi L k t + (bitI L j).toNat := by rw [hj]; rfl
          have HY := Lib.hid hy
          obtain ⟨hb1, hb2⟩ := HBI.out j
          rw [← HN.out] at hb1 hb2
          rw [← hj]
          have HJ := Lib.hid hj
          have hj9 : j < 2000000 := by omega
          obtain ⟨x, hx⟩ : ∃ x, x = vi L k t := ⟨_, rfl⟩
          rw [← hx] at HY hvb ⊢
          clear hy hx hj
          by_cases hin : j < n
          · have hjn : (j : Int) < (n : Int) := by omega
            have hjn2 : ((n : Int) ≤ (j : Int)) = False := by simp; omega
            obtain ⟨bb, bo, rfl, hbb, hbc⟩ := HRD.out (by omega)
            have c0 := hbc j hin
            dsimp only at c0
            have hb := hb2 hin
            have hj0 : (0 : Int) ≤ (j : Int) := by omega
            obtain hbn | hbn : nthB L j = false ∨ nthB L j = true := by cases nthB L j <;> simp
            all_goals
              have HHB : Hid (bitI L j = _) := Lib.hid (hb.trans hbn)
              rw [hbn] at c0
              clear hb hb1 hb2 hbc hbb hbn
              go_wp2_with fail
              go_roundw
              case rel =>
                have h1 := HY.out
                have h2 := HJ.out
                rw [HHB.out] at h1
                simp at h1
                exact ⟨t + 1, by rw [h2]; go_num, by rw [h1]; go_num, by go_num, by omega, by trivial⟩
              case measure => simp [intOf]; omega
          · have hjn2 : (n : Int) ≤ (j : Int) := by omega
            have HHB := Lib.hid (hb1 (by omega))
            clear hb1 hb2
            go_wp2_with fail
            go_roundw
            case rel =>
              have h1 := HY.out
              have h2 := HJ.out
              rw [HHB.out] at h1
              simp at h1
              exact ⟨t + 1, by rw [h2]; go_num, by rw [h1]; go_num, by go_num, by omega, by trivial⟩
            case measure => simp [intOf]; omega
        · have htd : t = d := by omega
          rw [htd] at hvb hj ⊢
          clear ht hlt2
          have hti : ((d : Int) < (d : Int)) = False := by simp
          obtain ⟨hw1, hw2, hw3⟩ := HWD.out k
          obtain ⟨hst1, hst2⟩ := HSTN.out k
          have HSN : Hid (Stuff L v 0 (ws ++ [stW L v k]) (k + stN L v k)) := Lib.hid (.snoc HS.out (by rw [← HN.out]; exact hlt))
          obtain ⟨sw, hsw⟩ : ∃ s, s = stW L v k := ⟨_, rfl⟩
          obtain ⟨sn, hsn⟩ : ∃ s, s = stN L v k := ⟨_, rfl⟩
          obtain ⟨x, hx⟩ : ∃ x, x = vi L k d := ⟨_, rfl⟩
          rw [← hsw, ← hsn] at HSN
          rw [← hsn] at hst1 hst2
          rw [← hsw, ← hsn, ← hx] at hw1 hw2 hw3
          rw [← hx] at hvb
          rw [← hx, ← hj]
          rw [← hj] at hw3
          have HJ := Lib.hid hj
          have HSZ := Lib.hid HB.out.size
          clear hsw hsn hx hj HS
          by_cases h0 : x = 0
          · have E1 : Hid (sw = 1) := Lib.hid (hw1 h0).1
            have E2 : Hid (sn = d) := Lib.hid (hw1 h0).2
            subst h0
            clear hw1 hw2 hw3
            clear HWD HSTN HVL
            go_wp2_with (at_builtin; refine wpList_push _ _ 24 w.heap.size 3 (.int .i64 0) 8 _ ws.length _ _ rfl rfl rfl rfl Tryz.underlying24 Tryz.infoInt rfl rfl (by decide) HO.out (by omega) HSZ.out ?_)
            intro v' w' hown' hg' hb'
            have HO3 : Hid (OwnI w' w.heap.size v' (ws ++ [sw])) := Lib.hid (by
              unfold OwnI
              rw [ints_append, List.length_append, E1.out]
              exact hown')
            have HB3 := Lib.hid (HB.out.trans hb')
            clear hown' hg' hb' HO HB
            go_wp2_with fail
            go_roundw
            case rel => exact ⟨k + sn, ws ++ [sw], by have h5 := E2.out; have h6 := HJ.out; rw [h5, h6], by have h5 := E2.out; omega, by simp; omega, HO3, HSN, HB3⟩
            case measure => have h5 := E2.out; have h6 := HJ.out; simp [intOf]; omega
          · have hx0 : ((x : Int) == 0) = false := by simp; omega
            obtain ⟨y, hy⟩ : ∃ y, y = 2 * x := ⟨_, rfl⟩
            have hy1 : (2 : Int) * (x : Int) = (y : Int) := by omega
            have hyb : y < 4096 := by omega
            by_cases h1 : x + 1 = P
            · have E1 : Hid (sw = y) := Lib.hid (by rw [hy]; exact (hw2 h0 h1).1)
              have E2 : Hid (sn = d) := Lib.hid (hw2 h0 h1).2
              have hxP : (P : Int) - 1 = (x : Int) := by omega
              have hxx : ((x : Int) == (P : Int) - 1) = true := by simp; omega
              clear hw1 hw2 hw3 hy h1
              clear HWD HSTN HVL
              go_wp2_with (at_builtin; refine wpList_push _ _ 24 w.heap.size 3 (.int .i64 0) 8 _ ws.length _ _ rfl rfl rfl rfl Tryz.underlying24 Tryz.infoInt rfl rfl (by decide) HO.out (by omega) HSZ.out ?_)
              intro v' w' hown' hg' hb'
              have HO3 : Hid (OwnI w' w.heap.size v' (ws ++ [sw])) := Lib.hid (by
                unfold OwnI
                rw [ints_append, List.length_append, E1.out]
                exact hown')
              have HB3 := Lib.hid (HB.out.trans hb')
              clear hown' hg' hb' HO HB
              go_wp2_with fail
              go_roundw
              case rel => exact ⟨k + sn, ws ++ [sw], by have h5 := E2.out; have h6 := HJ.out; rw [h5, h6], by have h5 := E2.out; omega, by simp; omega, HO3, HSN, HB3⟩
              case measure => have h5 := E2.out; have h6 := HJ.out; simp [intOf]; omega
            · have E2 : Hid (sn = d + 1) := Lib.hid (hw3 h0 h1).2
              have E0 := (hw3 h0 h1).1
              rw [← hy] at E0
              obtain ⟨p1, hp1⟩ : ∃ p, p = P - 1 := ⟨_, rfl⟩
              have hxP : (P : Int) - 1 = (p1 : Int) := by omega
              have hxx : ((x : Int) == (p1 : Int)) = false := by simp; omega
              obtain ⟨hb1, hb2⟩ := HBI.out j
              rw [← HN.out] at hb1 hb2
              have hj9 : j < 2000000 := by have := HJ.out; omega
              clear hw1 hw2 hw3 hy h1 hp1
              by_cases hin : j < n
              · have hjn : (j : Int) < (n : Int) := by omega
                have hjn2 : ((n : Int) ≤ (j : Int)) = False := by simp; omega
                obtain ⟨bb, bo, rfl, hbb, hbc⟩ := HRD.out (by omega)
                have c0 := hbc j hin
                dsimp only at c0
                have hb := hb2 hin
                have hj0 : (0 : Int) ≤ (j : Int) := by omega
                obtain hbn | hbn : nthB L j = false ∨ nthB L j = true := by cases nthB L j <;> simp
                · have E1 : Hid (sw = y) := Lib.hid (by rw [E0, hb, hbn]; rfl)
                  rw [hbn] at c0
                  clear hb hb1 hb2 hbc hbb hbn E0
                  clear HWD HSTN HVL
                  go_wp2_with (at_builtin; refine wpList_push _ _ 24 w.heap.size 3 (.int .i64 0) 8 _ ws.length _ _ rfl rfl rfl rfl Tryz.underlying24 Tryz.infoInt rfl rfl (by decide) HO.out (by omega) HSZ.out ?_)
                  intro v' w' hown' hg' hb'
                  have HO3 : Hid (OwnI w' w.heap.size v' (ws ++ [sw])) := Lib.hid (by
                    unfold OwnI
                    rw [ints_append, List.length_append, E1.out]
                    exact hown')
                  have HB3 := Lib.hid (HB.out.trans hb')
                  clear hown' hg' hb' HO HB
                  go_wp2_with fail
                  go_roundw
                  case rel => exact ⟨k + sn, ws ++ [sw], by have h5 := E2.out; have h6 := HJ.out; rw [h5, ← Nat.add_assoc, ← h6]; go_num, by have h5 := E2.out; omega, by simp; omega, HO3, HSN, HB3⟩
                  case measure => have h5 := E2.out; have h6 := HJ.out; simp [intOf]; omega
                · have E1 : Hid (sw = y + 1) := Lib.hid (by rw [E0, hb, hbn]; rfl)
                  rw [hbn] at c0
                  clear hb hb1 hb2 hbc hbb hbn E0
                  clear HWD HSTN HVL
                  go_wp2_with (at_builtin; refine wpList_push _ _ 24 w.heap.size 3 (.int .i64 0) 8 _ ws.length _ _ rfl rfl rfl rfl Tryz.underlying24 Tryz.infoInt rfl rfl (by decide) HO.out (by omega) HSZ.out ?_)
                  intro v' w' hown' hg' hb'
                  have HO3 : Hid (OwnI w' w.heap.size v' (ws ++ [sw])) := Lib.hid (by
                    unfold OwnI
                    rw [ints_append, List.length_append, E1.out]
                    exact hown')
                  have HB3 := Lib.hid (HB.out.trans hb')
                  clear hown' hg' hb' HO HB
                  go_wp2_with fail
                  go_roundw
                  case rel => exact ⟨k + sn, ws ++ [sw], by have h5 := E2.out; have h6 := HJ.out; rw [h5, ← Nat.add_assoc, ← h6]; go_num, by have h5 := E2.out; omega, by simp; omega, HO3, HSN, HB3⟩
                  case measure => have h5 := E2.out; have h6 := HJ.out; simp [intOf]; omega
              · have hjn2 : (n : Int) ≤ (j : Int) := by omega
                have E1 : Hid (sw = y + 1) := Lib.hid (by rw [E0, hb1 (by omega)]; rfl)
                clear hb1 hb2 E0
                clear HWD HSTN HVL
                go_wp2_with (at_builtin; refine wpList_push _ _ 24 w.heap.size 3 (.int .i64 0) 8 _ ws.length _ _ rfl rfl rfl rfl Tryz.underlying24 Tryz.infoInt rfl rfl (by decide) HO.out (by omega) HSZ.out ?_)
                intro v' w' hown' hg' hb'
                have HO3 : Hid (OwnI w' w.heap.size v' (ws ++ [sw])) := Lib.hid (by
                  unfold OwnI
                  rw [ints_append, List.length_append, E1.out]
                  exact hown')
                have HB3 := Lib.hid (HB.out.trans hb')
                clear hown' hg' hb' HO HB
                go_wp2_with fail
                go_roundw
                case rel => exact ⟨k + sn, ws ++ [sw], by have h5 := E2.out; have h6 := HJ.out; rw [h5, ← Nat.add_assoc, ← h6]; go_num, by have h5 := E2.out; omega, by simp; omega, HO3, HSN, HB3⟩
                case measure => have h5 := E2.out; have h6 := HJ.out; simp [intOf]; omega
    · have hki : ((k : Int) < (n : Int)) = False := by simp; omega
      go_wp2_with fail
      go_ret
      exact ⟨_, ws, k, rfl, HO.out, HS.out, by rw [← HN.out]; omega, by rw [← HN.out]; omega, hwk, HB.out⟩
end Go.Proofs.YtiielblnmfeapaaGreatDoor
