/-
  The statement FnDMCorrect, walked. No condition.
-/
import Derived.Test.YtjpnkdpgdmmkkaaDMU
import Derived.BigQuiet
namespace Go.Proofs.Ytjpnkdpgdmmkkaa
open Go.RowKit Go.Qz Go.Qz.RS Go.Qz.DM
set_option linter.unusedVariables false

def fidx (n : Nat) : Nat := facN.findIdx (· == n)
theorem sz_ok : ∀ t, t < 29 → 0 < (sz t).bl ∧ (sz t).bl ≤ 10 ∧ 0 < (sz t).dt / (sz t).bl ∧ (sz t).dt = (sz t).bl * ((sz t).dt / (sz t).bl) ∧ (sz t).er = (sz t).bl * ((sz t).er / (sz t).bl) ∧ 2 ≤ (sz t).er / (sz t).bl ∧ (sz t).er / (sz t).bl ≤ 100 ∧ (sz t).dt ≤ 2000 ∧ fidx ((sz t).er / (sz t).bl) < 16 ∧ (sz t).er / (sz t).bl = nth facN (fidx ((sz t).er / (sz t).bl)) ∧ ∀ u, u < fidx ((sz t).er / (sz t).bl) → nth facN u ≠ (sz t).er / (sz t).bl := by decide +kernel

def DcPost (n B Dt N : Nat) (data : List Nat) (w : World) (en : Ending) (w' : World) : Prop :=
  ∃ X, en = .returned (.tuple #[.slice (some ⟨X, 0, none⟩) N N, .bool true]) ∧ Arr w' 5 X (u8s (rowF N (co2 n B Dt data B 0))) ∧ Below w.heap.size w w'
set_option maxRecDepth 100000 in
set_option maxHeartbeats 6400000 in
theorem dmCorrect (t0 : Nat) (ht0 : t0 < 29) (sh : Nat) (hsh : sh = if recT t0 then 2 else 1) (data : List Nat) (hl : data.length = (sz t0).dt) (hd : ∀ j, nth data j < 256) (A : Option Addr) (c : Nat) (w : World) (h : Rd w A (sz t0).dt (fun j => .int .u8 (nth data j : Nat))) :
    Calls Try.prog 5 #[.slice A (sz t0).dt c, .int .i64 sh] w (DcPost ((sz t0).er / (sz t0).bl) (sz t0).bl (sz t0).dt ((sz t0).dt + (sz t0).er) data w) := by
  obtain ⟨k1, k2, k3, k4, k5, k6, k7, k8, k9, k10, k11⟩ := sz_ok t0 ht0
  have HLK := Lib.hid (dmLookup t0 ht0 sh hsh w)
  have HR := Lib.hid h
  have HLEN := Lib.hid hl
  obtain ⟨r, hr⟩ : ∃ r, r = recT t0 := ⟨_, rfl⟩
  have HENC := Lib.hid (fun p A c W hS hR => dmEncode data (sz t0).dt (sz t0).er (sz t0).bl ((sz t0).dt / (sz t0).bl) ((sz t0).er / (sz t0).bl) (fidx ((sz t0).er / (sz t0).bl)) p (recT t0) k1 k2 k3 k4 k5 k8 k6 k7 k9 k10 k11 hl hd A c W hS hR)
  obtain ⟨Dt, hDt⟩ : ∃ Dt, Dt = (sz t0).dt := ⟨_, rfl⟩
  obtain ⟨N, hN⟩ : ∃ N, N = (sz t0).dt + (sz t0).er := ⟨_, rfl⟩
  rw [← hN] at HENC ⊢
  unfold LookPost at HLK
  rw [← hDt] at HENC HLK HR k8 HLEN ⊢
  obtain ⟨er0, her⟩ : ∃ e, e = (sz t0).er := ⟨_, rfl⟩
  obtain ⟨B, hB⟩ : ∃ e, e = (sz t0).bl := ⟨_, rfl⟩
  rw [← her, ← hB] at HENC HLK ⊢
  have HONE := Lib.hid (u8s_one data)
  clear k1 k2 k3 k4 k5 k6 k7 k9 k10 k11 hDt hN her hB h hsh hr hl
  go_enter Try.func5, Try.ntmps5
  go_wp2_with fail
  refine HLK.out.mono ?_
  rintro en w1 ⟨p, rfl, hS, hb1⟩
  have HS := Lib.hid hS
  have HB1 := Lib.hid hb1
  have hrd1 := HR.out.below hb1
  clear hS hb1 HLK
  go_wp2_with (at_builtin; refine wpList_copyTo _ _ 22 w1.heap.size 5 (.int .u8 0) 1 _ 0 [] _ _ _ _ rfl rfl rfl rfl Try.underlying22 Try.infoU8D rfl (fun j _ => rfl) (by decide) (World.ownsRow_nil _ _ _ _) hrd1 (by omega) (Nat.le_refl _) ?_)
  intro v2 w2 hown2 hg2 hb2
  obtain ⟨A2, c2, rfl, hc2, hcm2, hr2⟩ := Rd.of_own hown2
  have hr3 : Rd w2 A2 Dt (fun j => .int .u8 (nth data j : Nat)) := hr2.congr (fun j hj => by
    rw [List.getD_eq_getElem?_getD, List.getElem?_map, List.getElem?_range hj]; rfl)
  have HS2 := Lib.hid (HS.out.below hb2)
  have HB2 := Lib.hid (HB1.out.trans (hb2.mono HB1.out.size))
  have HE := Lib.hid (HENC.out p A2 c2 w2 HS2.out hr3)
  clear hown2 hg2 hb2 hr2 hr3 hc2 hcm2 hrd1 HENC
  go_wp2_with fail
  refine HE.out.mono ?_
  rintro en w3 ⟨X, rfl, hA, hb3⟩
  have HA := Lib.hid hA
  have HB3 := Lib.hid (HB2.out.trans (hb3.mono HB2.out.size))
  clear hA hb3 HE
  go_wp2_with fail
  go_ret2
  exact ⟨X, rfl, HA.out, HB3.out⟩

set_option maxRecDepth 100000 in
set_option maxHeartbeats 1600000 in
theorem dmSame (f : Nat → Nat) (A B : Option Addr) (n c d : Nat) (hn : n < 100000) (w : World) (hA : Rd w A n (fun j => .int .u8 (f j : Nat))) (hB : Rd w B n (fun j => .int .u8 (f j : Nat))) :
    Calls Try.prog 6 #[.slice A n c, .slice B n d] w fun e w' => e = .returned (.bool true) ∧ Below w.heap.size w w' := by
  have HA := Lib.hid hA
  have HB := Lib.hid hB
  clear hA hB
  go_enter Try.func6, Try.ntmps6
  go_wp2_with fail
  go_loopw [13] (fun i wr => ∃ k : Nat, k ≤ n ∧ i = .int .i64 k ∧ Below w.heap.size w wr) (fun i _ => n - (intOf i).toNat)
  case atStart => exact ⟨0, by omega, rfl, Below.refl _ _⟩
  case round =>
    obtain ⟨k, hk, rfl, hbel⟩ := hrel
    by_cases hlt : k < n
    · obtain ⟨ab, ao, rfl, hab, hac⟩ := (HA.out.below hbel) (by omega)
      obtain ⟨bb, bo, rfl, hbb, hbc⟩ := (HB.out.below hbel) (by omega)
      have ca := hac k hlt
      have cb := hbc k hlt
      dsimp only at ca cb
      obtain ⟨x, hx⟩ : ∃ x, x = f k := ⟨_, rfl⟩
      rw [← hx] at ca cb
      have hk0 : (0 : Int) ≤ (k : Int) := by omega
      have hk1 : (k : Int) < (n : Int) := by omega
      have HBEL := Lib.hid hbel
      clear hac hbc hbel hx
      go_wp2_with fail
      go_quiet (fail)
      go_wp2_with fail
      go_roundw
      case rel => exact ⟨k + 1, by omega, by go_num, Go.Qz.below_drewN HBEL.out _⟩
      case measure => simp [intOf]; omega
    · obtain rfl : k = n := by omega
      go_wp2_with fail
      go_ret
      exact ⟨rfl, hbel⟩

set_option maxRecDepth 100000 in
set_option maxHeartbeats 6400000 in
theorem fnDMCorrect (w : World) (A : Option Addr) (n c : Nat) (z : Nat → Int) (hnc : n ≤ c) (hcm : c ≤ maxLen) (hz : ∀ j, j < n → (Lit.int .u8 (z j)).wf = true) (h : Rd w A n (fun j => .int .u8 (z j))) (rect : Bool) :
    Calls Try.prog 3 #[.slice A n c, .bool rect] w fun e w' => e = .returned (.bool true) ∧ Below w.heap.size w w' := by
  by_cases hbig : (2147483647 : Int) < n
  · clear hz h
    go_enter Try.func3, Try.ntmps3
    go_wp2_with fail
    go_ret
    exact ⟨rfl, Below.refl _ _⟩
  obtain ⟨data, hdata⟩ : ∃ data : List Nat, data = rowF n (fun j => (z j).toNat) := ⟨_, rfl⟩
  have hdl : data.length = n := by rw [hdata, rowF_length]
  have hd : ∀ j, nth data j < 256 := fun j => D_el (fun i hi => by
    rw [hdl] at hi
    rw [hdata, rowF_nth hi]
    have := bd_u8 (hz i hi)
    omega) j
  have hr : Rd w A n (fun j => .int .u8 (nth data j : Nat)) := h.congr fun j hj => by
    rw [hdata, rowF_nth hj]
    have := bd_u8 (hz j hj)
    rw [show (((z j).toNat : Nat) : Int) = z j by omega]
  have HR := Lib.hid hr
  have HD := Lib.hid hd
  have HDL := Lib.hid hdl
  have HSO := Lib.hid (dmSizeOf n (by omega) rect w)
  clear hz h hdata hd hr hdl
  go_enter Try.func3, Try.ntmps3
  go_wp2_with fail
  refine HSO.out.mono ?_
  rintro en w1 ⟨s, r, rfl, hs, hb1⟩
  have HSS := Lib.hid hs
  have HB1 := Lib.hid hb1
  have hA2 := Arr.new w1 24 (dcells s)
  have hbN := hb1.alloc hb1.size (.cells (dcells s).toArray 24)
  obtain ⟨W2, hW2⟩ : ∃ W2, W2 = w1.alloc (.cells (dcells s).toArray 24) := ⟨_, rfl⟩
  rw [← hW2] at hA2 hbN
  unfold dcells at hW2
  have HW2 := Lib.hid hW2
  obtain ⟨E, hE⟩ : ∃ E, E = w1.heap.size := ⟨_, rfl⟩
  rw [← hE] at hA2
  have HE := Lib.hid hE
  have HA2 := Lib.hid hA2
  have HB2 := Lib.hid hbN
  obtain ⟨d0, d1, d2, d3, d4, d5, d6⟩ := dcellsOf hA2
  unfold dsv
  clear hs hb1 hA2 hbN hW2 HSO hE
  cases r with
  | false =>
    go_wp2_with fail
    rw [← HW2.out]
    go_ret
    exact ⟨rfl, HB2.out⟩
  | true =>
    obtain ⟨t, ht, hst, hsx, hsq⟩ := HSS.out rfl
    by_cases hgt : 1304 < n
    · have hgt1 : (1304 : Int) < (s.dt : Int) := by omega
      clear hst hsx hsq
      go_wp2_with fail
      rw [← HW2.out]
      go_ret
      exact ⟨rfl, HB2.out⟩
    · have hgt1 : ((1304 : Int) < (s.dt : Int)) = False := by simp; omega
      have ht29 : t < 29 := by
        rcases Nat.lt_or_ge t 29 with h9 | h9
        · exact h9
        · obtain rfl : t = 29 := by omega
          rw [hst] at hsx
          have h8 : (sz 29).dt = 1558 := rfl
          omega
      subst hst
      subst hsx
      have hrec : recT t = rect := by
        have e : (((sz t).rows : Int) == ((sz t).cols : Int)) = ((sz t).rows == (sz t).cols) := by
          rw [Bool.eq_iff_iff]; simp
          constructor <;> intro h9 <;> omega
        rw [e] at hsq
        unfold recT
        rw [hsq]; simp
      obtain ⟨k1, k2, k3, k4, k5, k6, k7, k8, k9, k10, k11⟩ := sz_ok t ht29
      have HDC := Lib.hid (fun sh hsh => dmCorrect t ht29 sh hsh data HDL.out HD.out A c W2 (HR.out.below HB2.out))
      have HALL := Lib.hid (fun W hR => dmAll (sz t) ((sz t).er / (sz t).bl) ((sz t).dt / (sz t).bl) k1 k2 k4 k5 (by omega) k7 k3 k8 data HDL.out HD.out A c W hR)
      rw [hrec] at HDC
      unfold dsv at HALL
      have hers : (sz t).er ≤ 1000 := by
        have h5 : (sz t).bl * ((sz t).er / (sz t).bl) ≤ 10 * 100 := Nat.mul_le_mul k2 k7
        omega
      clear k1 k2 k3 k4 k5 k6 k7 k9 k10 k11 hsq hrec
      obtain ⟨N, hN⟩ : ∃ N, N = (sz t).dt + (sz t).er := ⟨_, rfl⟩
      rw [← hN] at HDC HALL
      have hNb : N < 100000 := by omega
      clear hN
      cases rect
      all_goals
        have HD1 := Lib.hid (HDC.out _ rfl)
        simp only [Bool.false_eq_true, if_true, if_false] at HD1
        clear HDC
        go_wp2_with fail
        rw [← HW2.out]
        refine HD1.out.mono ?_
        rintro en w3 ⟨X, rfl, hAX, hb3⟩
        have HAX := Lib.hid hAX
        have HA3 := Lib.hid (HA2.out.below hb3 HA2.out.lt)
        have HB3 := Lib.hid (HB2.out.trans (hb3.mono HB2.out.size))
        obtain ⟨d0, d1, d2, d3, d4, d5, d6⟩ := dcellsOf HA3.out
        have HAL := Lib.hid (HALL.out w3 (HR.out.below HB3.out))
        clear hAX hb3 HD1 HALL
        rw [← HE.out]
        go_wp2_with fail
        refine HAL.out.mono ?_
        rintro en w4 ⟨Y, rfl, hAY, hY, hb4⟩
        have HAX4 := Lib.hid (HAX.out.below hb4 HAX.out.lt)
        have HB4 := Lib.hid (HB3.out.trans (hb4.mono HB3.out.size))
        have hrdX : Rd w4 (some ⟨X, 0, none⟩) N (fun j => .int .u8 ((co2 ((sz t).er / (sz t).bl) (sz t).bl (sz t).dt data (sz t).bl 0 j : Nat) : Int)) := fun _ => ⟨X, 0, rfl, HAX4.out.lt, fun j hj => by rw [Nat.zero_add, HAX4.out.cell?, u8s_rowF hj]⟩
        have hrdY : Rd w4 (some ⟨Y, 0, none⟩) N (fun j => .int .u8 ((co2 ((sz t).er / (sz t).bl) (sz t).bl (sz t).dt data (sz t).bl 0 j : Nat) : Int)) := fun _ => ⟨Y, 0, rfl, hAY.lt, fun j hj => by rw [Nat.zero_add, hAY.cell?, u8s_rowF hj]⟩
        have HSA := Lib.hid (dmSame _ (some ⟨X, 0, none⟩) (some ⟨Y, 0, none⟩) N N N hNb w4 hrdX hrdY)
        clear hAY hY hb4 hrdX hrdY HAL
        go_wp2_with fail
        refine HSA.out.mono ?_
        rintro en w5 ⟨rfl, hb5⟩
        have HB5 := Lib.hid (HB4.out.trans (hb5.mono HB4.out.size))
        clear hb5
        go_wp2_with fail
        go_ret
        exact ⟨rfl, HB5.out⟩
end Go.Proofs.Ytjpnkdpgdmmkkaa
