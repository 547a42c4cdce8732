/-
  AZSymbol and azSymbol, walked. No condition beyond the bounds that each theorem states.
-/
import Derived.Test.YtiielblnmfeapaaGreatDoorAZI
import Derived.Test.YtiielblnmfeapaaGreatDoorAZX
namespace Go.Proofs.YtiielblnmfeapaaGreatDoor
open Go.RowKit Go.Qz Go.Qz.RS
set_option linter.unusedVariables false

/-- How many words a symbol has. -/
def allOf (c : Bool) (l : Nat) : Nat := bitsIn c l / wOf l
theorem allOf_ok : ∀ c l, l < 33 → allOf c l ≤ 1664 ∧ allOf c l < 2 ^ wOf l := by decide +kernel
def SymPost (F : Fld) (data : List Nat) (al : Nat) (w : World) (e : Ending) (w' : World) : Prop :=
  ∃ v b, e = .returned (.tuple #[v, .bool b]) ∧ (b = true → ∃ L, OwnI w' w.heap.size v L ∧ Code F data (al - data.length) L ∧ 0 < data.length ∧ data.length + 2 ≤ al) ∧ Below w.heap.size w w'

set_option maxRecDepth 100000 in
set_option maxHeartbeats 6400000 in
theorem azSymbolS (cm : Bool) (l : Nat) (hl : l ≤ 32) (data : List Nat) (hde : El (fdOf (wOf l)) data) (hdl : data.length < 10000000) (A : Option Addr) (c : Nat) (hc : data.length ≤ c) (w : World) (h : Rd w A data.length (fun j => .int .i64 (nth data j : Nat))) :
    Calls Tryz.prog 11 #[.slice A data.length c, .bool cm, .int .i64 l] w (SymPost (fdOf (wOf l)) data (allOf cm l) w) := by
  have HAW := Lib.hid (fun W => azWidth l (by omega) W)
  have HAB := Lib.hid (fun W => azBits cm l hl W)
  have hcs := wOf_cases l
  have HAF := Lib.hid (fun W => azField (wOf l) (wOf_cases l) W)
  obtain ⟨hal1, hal2⟩ := allOf_ok cm l (by omega)
  have hbi := bitsIn_le cm l hl
  obtain ⟨F, hF⟩ : ∃ F, F = fdOf (wOf l) := ⟨_, rfl⟩
  have hsx : Six F := by rw [hF]; exact (fdOf_six hcs).1
  rw [← hF] at hde HAF ⊢
  obtain ⟨al, hal⟩ : ∃ al, al = allOf cm l := ⟨_, rfl⟩
  have hal3 : al = bitsIn cm l / wOf l := hal
  rw [← hal] at hal1 hal2 ⊢
  obtain ⟨bi, hbi2⟩ : ∃ bi, bi = bitsIn cm l := ⟨_, rfl⟩
  rw [← hbi2] at hal3 hbi HAB
  obtain ⟨wv, hwv⟩ : ∃ wv, wv = wOf l := ⟨_, rfl⟩
  rw [← hwv] at HAW HAF hcs hal2 hal3
  have hq : (bi : Int).tdiv (wv : Int) = (al : Int) := by rw [Int.tdiv_eq_ediv_of_nonneg (by omega), hal3]; simp
  have hq2 : (bi : Int) / (wv : Int) = (al : Int) := by rw [hal3]; simp
  have hw0 : ¬ (wv : Int) = 0 := by omega
  have hw00 : ¬ wv = 0 := by omega
  have HENC := Lib.hid (fun h1 h2 h3 W hr => rsEncodeS F hsx data (al - data.length) h1 h2 h3 hde A c hc W hr)
  have HR := Lib.hid h
  obtain ⟨dl, hdle⟩ : ∃ dl, dl = data.length := ⟨_, rfl⟩
  have HDL := Lib.hid hdle
  have HD0 : Hid (0 < dl → data ≠ []) := Lib.hid (fun h e => by rw [hdle, e] at h; simp at h)
  rw [← hdle] at HENC HR hdl ⊢
  unfold fv at *
  have hcs2 : Hid (wv = 6 ∨ wv = 8 ∨ wv = 10 ∨ wv = 12) := Lib.hid hcs
  clear hF hal hal3 hbi2 hwv h hde hdle hal2 hcs hsx hc
  go_enter Tryz.func11, Tryz.ntmps11
  go_wp2_with fail
  refine (HAW.out _).mono ?_
  rintro e w1 ⟨rfl, rfl⟩
  go_wp2_with fail
  refine (HAB.out _).mono ?_
  rintro e w1 ⟨rfl, rfl⟩
  by_cases h0 : dl = 0
  · subst h0
    go_wp2_with fail
    go_ret2
    exact ⟨_, false, rfl, (fun h => by cases h), Below.refl _ _⟩
  · have h01 : ((dl : Int) == 0) = false := by simp; omega
    by_cases h2 : al < dl + 2
    · have h21 : (al : Int) < (dl : Int) + 2 := by omega
      go_wp2_with fail
      go_ret2
      exact ⟨_, false, rfl, (fun h => by cases h), Below.refl _ _⟩
    · have h21 : ((al : Int) < (dl : Int) + 2) = False := by simp; omega
      obtain ⟨ec, hec⟩ : ∃ ec, ec = al - dl := ⟨_, rfl⟩
      have hec1 : (al : Int) - (dl : Int) = (ec : Int) := by omega
      rw [← hec] at HENC
      have hecb : 1 ≤ ec := by omega
      have hde2 : dl + ec < 2500 := by omega
      have HEC := Lib.hid hec
      clear hec
      go_wp2_with fail
      refine (HAF.out _).mono ?_
      rintro e w1 ⟨rfl, hb1⟩
      have HB1 := Lib.hid hb1
      have HE := Lib.hid (HENC.out hecb (HD0.out (by omega)) hde2 w1 (HR.out.below hb1))
      clear hb1 HENC
      go_wp2_with fail
      refine HE.out.mono ?_
      rintro e w2 ⟨v, L, rfl, hO, hC, hb2⟩
      have HO := Lib.hid ((show OwnI w2 w1.heap.size v L from hO).lower HB1.out.size)
      have HC := Lib.hid hC
      have HB2 := Lib.hid (HB1.out.trans (hb2.mono HB1.out.size))
      clear hO hC hb2 HE
      go_wp2_with fail
      go_ret2
      exact ⟨v, true, rfl, fun _ => ⟨L, HO.out, by rw [← HDL.out, ← HEC.out]; exact HC.out, by rw [← HDL.out]; omega, by rw [← HDL.out]; omega⟩, HB2.out⟩

/-- A symbol of a message. -/
structure SymOf (z : Nat → Nat) (n : Nat) (cm : Bool) (l : Nat) (bits : List Bool) (ws L : List Nat) (T : List Nat) : Prop where
  wrote : Wrote z n 150 bits
  bl : bits.length ≤ 700 * 201
  tl : T.length ≤ 70 * 201
  t128 : ∀ x, x ∈ T → x < 128
  runs : ∃ ms mode, mode < 5 ∧ Runs (0, 0) ms bits T (mode, mode)
  stuff : ∃ k, Stuff bits (wOf l) 0 ws k ∧ bits.length ≤ k ∧ k ≤ bits.length + 12
  code : Code (fdOf (wOf l)) ws (allOf cm l - ws.length) L
  pos : 0 < ws.length
  room : ws.length + 2 ≤ allOf cm l
def AzsPost (z : Nat → Nat) (n : Nat) (cm : Bool) (l : Nat) (w : World) (e : Ending) (w' : World) : Prop :=
  ∃ v m T b, e = .returned (.tuple #[v, .int .i64 (m : Nat), .string (strB T), .bool b]) ∧ (b = true → ∃ bits ws L, SymOf z n cm l bits ws L T ∧ m = ws.length ∧ OwnI w' w.heap.size v L) ∧ Below w.heap.size w w'

set_option maxRecDepth 100000 in
set_option maxHeartbeats 6400000 in
theorem azSymbol (z : Nat → Nat) (n : Nat) (cm : Bool) (l : Nat) (hl : l ≤ 32) (A : Option Addr) (c : Nat) (hnc : n ≤ c) (hcl : c ≤ 9223372036854775807) (hn : n ≤ 2147483647) (hz : ∀ j, j < n → z j < 256) (w : World) (h : Rd w A n (fun j => .int .u8 (z j : Nat))) :
    Calls Tryz.prog 5 #[.slice A n c, .bool cm, .int .i64 l] w (AzsPost z n cm l w) := by
  have HAW := Lib.hid (fun W => azWidth l (by omega) W)
  have HWR := Lib.hid (azWrite A n c z 150 (by omega) hnc hcl hn hz w h)
  clear h hz
  go_enter Tryz.func5, Tryz.ntmps5
  go_wp2_with fail
  refine HWR.out.mono ?_
  rintro e w1 ⟨v, bits, T, ms, mode, rfl, hO, hR, hm, hbl, hTl, hT, hb1, hW⟩
  obtain ⟨A1, c1, rfl, hc1, hcm1, hr1⟩ := Rd.of_own hO
  have hr2 : Rd w1 A1 bits.length (fun j => .bool (nthB bits j)) := hr1.congr (fun j hj => by
    rw [List.getD_eq_getElem?_getD, List.getElem?_map, nthB_eq hj, List.getElem?_eq_getElem hj]; rfl)
  have HB1 := Lib.hid hb1
  have HRUN : Hid (∃ ms mode, mode < 5 ∧ Runs (0, 0) ms bits T (mode, mode)) := Lib.hid ⟨ms, mode, hm, hR⟩
  have HT := Lib.hid (And.intro hTl hT)
  have HW := Lib.hid hW
  have HBL := Lib.hid hbl
  have hcs := wOf_cases l
  have HAS := Lib.hid (azStuff bits (wOf l) hcs A1 bits.length c1 rfl (by omega) w1 hr2)
  have HCS := Lib.hid hcs
  obtain ⟨sT, hsT⟩ : ∃ sT, sT = strB T := ⟨_, rfl⟩
  rw [← hsT]
  have HST := Lib.hid hsT
  obtain ⟨bl, hble⟩ : ∃ bl, bl = bits.length := ⟨_, rfl⟩
  rw [← hble] at HAS ⊢
  obtain ⟨wv, hwv⟩ : ∃ wv, wv = wOf l := ⟨_, rfl⟩
  rw [← hwv] at HAS HAW
  have HWV := Lib.hid hwv
  clear hO hr1 hr2 hR hm hTl hT hb1 hW hbl hsT hble hwv hcs hcm1 hc1 HWR
  go_wp2_with fail
  refine (HAW.out _).mono ?_
  rintro e w2 ⟨rfl, rfl⟩
  go_wp2_with fail
  refine HAS.out.mono ?_
  rintro e w2 ⟨u, ws, k, rfl, hO2, hS, hk1, hk2, hwk, hb2⟩
  obtain ⟨A2, c2, rfl, hc2, hr2⟩ := OwnI.rd (show OwnI w2 w1.heap.size u ws from hO2)
  have hel : El (fdOf (wOf l)) ws := fun j => by
    have h4 := (hS.un (show 4 ≤ wv by have := HCS.out; rw [← HWV.out] at this; omega)).2.2.2
    have h5 := (fdOf_six HCS.out).2
    rw [h5, ← HWV.out]
    have h6 : 0 < 2 ^ wv := Nat.two_pow_pos _
    by_cases hj : j < ws.length
    · have := (h4 (nth ws j) (by rw [nth_eq hj]; exact List.getElem_mem hj)).2
      omega
    · rw [nth_past (by omega)]; exact h6
  have HSY := Lib.hid (azSymbolS cm l hl ws hel (by have := HBL.out; omega) A2 c2 hc2 w2 hr2)
  have HSTF : Hid (∃ k, Stuff bits (wOf l) 0 ws k ∧ bits.length ≤ k ∧ k ≤ bits.length + 12) := Lib.hid ⟨k, by rw [← HWV.out]; exact hS, hk1, hk2⟩
  have HB2 := Lib.hid (HB1.out.trans (hb2.mono HB1.out.size))
  obtain ⟨wl, hwl⟩ : ∃ wl, wl = ws.length := ⟨_, rfl⟩
  rw [← hwl] at HSY ⊢
  have HWL := Lib.hid hwl
  clear hO2 hS hk1 hk2 hwk hb2 hel hr2 hwl HAS hc2
  go_wp2_with fail
  refine HSY.out.mono ?_
  rintro e w3 ⟨v3, b, rfl, hv3, hb3⟩
  have HV3 := Lib.hid hv3
  have HB3 := Lib.hid (HB2.out.trans (hb3.mono HB2.out.size))
  have HSZ := Lib.hid HB2.out.size
  clear hv3 hb3 HSY
  go_wp2_with fail
  refine bodyPost_ret (v := .tuple #[v3, .int .i64 (wl : Nat), .string sT, .bool b]) (by simp [results, Tryz.results5, go_sem]) rfl ?_
  refine ⟨v3, wl, T, b, by rw [HST.out], fun hb => ?_, HB3.out⟩
  obtain ⟨L, hO, hC, hp, hr⟩ := HV3.out hb
  exact ⟨bits, ws, L, ⟨HW.out, HBL.out, HT.out.1, HT.out.2, HRUN.out, HSTF.out, hC, hp, hr⟩, HWL.out, (show OwnI w3 w2.heap.size v3 L from hO).lower HSZ.out⟩
end Go.Proofs.YtiielblnmfeapaaGreatDoor
