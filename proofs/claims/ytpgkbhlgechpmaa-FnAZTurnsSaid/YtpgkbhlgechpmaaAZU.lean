/-
  Rotation, AZTurn, AZMark, AZWrongMarks, AZUpper, azLength, walked. No condition beyond the bounds that each theorem states.
-/
import Derived.Test.YtpgkbhlgechpmaaAZW
import Derived.BigRegion
namespace Go.Proofs.Ytpgkbhlgechpmaa
open Go.RowKit Go.Qz Go.Qz.AZ
set_option linter.unusedVariables false

set_option maxRecDepth 100000 in
set_option maxHeartbeats 1600000 in
theorem rotation (s : Nat → Nat) (len : Nat) (hlen : len = 10 ∨ len = 14) (hs : ∀ i, i < 4 → s i < 2 ^ len) (A : Option Addr) (c : Nat) (w : World) (h : Rd w A 4 (fun j => .int .i64 (s j : Nat))) :
    Calls Try.prog 34 #[.slice A 4 c, .int .i64 len] w (RotPost (rot (tk len (s 0)) (tk len (s 1)) (tk len (s 2)) (tk len (s 3))) w) := by
  have HG := Lib.hid (getRot s len hlen hs A c w h)
  clear hs h hlen
  generalize rot (tk len (s 0)) (tk len (s 1)) (tk len (s 2)) (tk len (s 3)) = r at *
  go_enter Try.func34, Try.ntmps34
  go_wp2_with fail
  refine HG.out.mono ?_
  rintro e w1 ⟨hb, ⟨hr, rfl⟩ | ⟨hr, x, rfl⟩⟩
  · have HB := Lib.hid hb
    clear hb
    go_wp2_with fail
    go_ret2
    exact ⟨HB.out, .inl ⟨hr, rfl⟩⟩
  · have HB := Lib.hid hb
    have HR := Lib.hid hr
    clear hb hr
    go_wp2_with fail
    go_ret2
    exact ⟨HB.out, .inr ⟨HR.out, x, rfl⟩⟩

/-- What AZTurn says. -/
def TurnPost (r : Nat) (w : World) (e : Ending) (w' : World) : Prop := Below w.heap.size w w' ∧
  (r < 4 ∧ e = .returned (.tuple #[.int .i64 r, .bool true]) ∨ r = 4 ∧ e = .returned (.tuple #[.int .i64 0, .bool false]))

set_option maxRecDepth 100000 in
set_option maxHeartbeats 1600000 in
theorem azTurn (s : Nat → Nat) (len : Nat) (hlen : len = 10 ∨ len = 14) (hs : ∀ i, i < 4 → s i < 2 ^ len) (A : Option Addr) (n c : Nat) (hn : n = 4) (w : World) (h : Rd w A n (fun j => .int .i64 (s j : Nat))) :
    Calls Try.prog 18 #[.slice A n c, .int .i64 len] w (TurnPost (rot (tk len (s 0)) (tk len (s 1)) (tk len (s 2)) (tk len (s 3))) w) := by
  have HROT := Lib.hid (fun A c W hW => rotation s len hlen hs A c W hW)
  generalize rot (tk len (s 0)) (tk len (s 1)) (tk len (s 2)) (tk len (s 3)) = r at *
  have HN := Lib.hid hn
  have hn2 : n < 1000 := by omega
  have hl2 : ¬ (len : Int) < 2 := by omega
  clear hs hlen hn
  go_enter Try.func18, Try.ntmps18
  go_wp2_with (at_builtin; refine wpList_copyTo _ _ 28 w.heap.size 3 (.int .i64 0) 8 _ 0 [] _ _ _ _ rfl rfl rfl rfl Try.underlying28 Try.infoInt rfl (fun j _ => rfl) (by decide) (World.ownsRow_nil _ _ _ _) h (by omega) (Nat.le_refl _) ?_)
  intro v' w1 hown hg hbel
  obtain ⟨A', c', rfl, hnc, hcm, hrd⟩ := Rd.of_own hown
  have hn := HN.out
  subst hn
  have hrd2 : Rd w1 A' 4 (fun j => .int .i64 (s j : Nat)) := by
    refine Rd.congr hrd fun j hj => ?_
    have : j = 0 ∨ j = 1 ∨ j = 2 ∨ j = 3 := by omega
    rcases this with rfl | rfl | rfl | rfl <;> rfl
  have HE := Lib.hid (HROT.out A' c' w1 hrd2)
  clear hown hg hrd hrd2 h hnc hcm HN hn2
  have heqe : ∀ W, (binOp .eql 62 .nilIface .nilIface).run Try.prog W = .ok (.bool true) W := fun W => rfl
  go_wp2_with fail
  refine HE.out.mono ?_
  rintro e w2 ⟨hb2, ⟨hi, rfl⟩ | ⟨hi, x, rfl⟩⟩
  · have HBEL := Lib.hid (hbel.trans (hb2.mono hbel.size))
    have HI := Lib.hid hi
    clear hi hb2 hbel
    go_wp2_with fail
    go_quiet (fail)
    go_wp2_with fail
    go_ret2
    exact ⟨below_drewN HBEL.out _, .inl ⟨HI.out, rfl⟩⟩
  · have HBEL := Lib.hid (hbel.trans (hb2.mono hbel.size))
    have HI := Lib.hid hi
    have heqx : ∀ W, (binOp .eql 62 (.iface 104 x) .nilIface).run Try.prog W = .ok (.bool false) W := fun W => run_eql_held_nil W _ _ _ errIface
    clear hi hb2 hbel
    go_wp2_with fail
    go_quiet (fail)
    go_wp2_with fail
    go_ret2
    exact ⟨below_drewN HBEL.out _, .inr ⟨HI.out, rfl⟩⟩

set_option maxRecDepth 100000 in
set_option maxHeartbeats 1600000 in
theorem azMark (c k : Nat) (hc : c < 4) (hk : k < 3) (m : Bool) (hm : m = AZ.mark c k) (w : World) :
    Calls Try.prog 45 #[.int .i64 c, .int .i64 k] w fun e w' => e = .returned (.bool m) ∧ w = w' := by
  have h1 : c = 0 ∨ c = 1 ∨ c = 2 ∨ c = 3 := by omega
  have h2 : k = 0 ∨ k = 1 ∨ k = 2 := by omega
  rcases h1 with rfl | rfl | rfl | rfl <;> rcases h2 with rfl | rfl | rfl <;>
  · simp [AZ.mark] at hm
    subst hm
    go_enter Try.func45, Try.ntmps45
    go_wp2_with fail
    go_ret
    exact ⟨rfl, rfl⟩

set_option maxRecDepth 100000 in
set_option maxHeartbeats 800000 in
theorem azRadius (b : Bool) (n : Nat) (hn : n = if b then 5 else 7) (w : World) :
    Calls Try.prog 33 #[.bool b] w fun e w' => e = .returned (.int .i64 (n : Nat)) ∧ w = w' := by
  subst hn
  cases b <;>
  · go_enter Try.func33, Try.ntmps33
    go_wp2_with fail
    go_ret
    exact ⟨rfl, rfl⟩
set_option maxRecDepth 100000 in
set_option maxHeartbeats 800000 in
theorem azLength (b : Bool) (n : Nat) (hn : n = if b then 10 else 14) (w : World) :
    Calls Try.prog 17 #[.bool b] w fun e w' => e = .returned (.int .i64 (n : Nat)) ∧ w = w' := by
  subst hn
  cases b <;>
  · go_enter Try.func17, Try.ntmps17
    go_wp2_with fail
    refine (azRadius _ _ rfl w).mono ?_
    rintro e w' ⟨rfl, rfl⟩
    go_wp2_with fail
    go_ret
    exact ⟨rfl, rfl⟩

theorem tk_bits10 (y : Nat) : tk 10 y % 2 = y % 2 ∧ tk 10 y / 2 % 2 = y / 256 % 2 ∧ tk 10 y / 4 % 2 = y / 512 % 2 := by
  have h : y / 512 = y / 256 / 2 := by rw [Nat.div_div_eq_div_mul]
  unfold tk
  rw [h, show 2 ^ (10 - 2) = 256 from rfl]
  generalize y / 256 = q
  omega
theorem tk_bits14 (y : Nat) : tk 14 y % 2 = y % 2 ∧ tk 14 y / 2 % 2 = y / 4096 % 2 ∧ tk 14 y / 4 % 2 = y / 8192 % 2 := by
  have h : y / 8192 = y / 4096 / 2 := by rw [Nat.div_div_eq_div_mul]
  unfold tk
  rw [h, show 2 ^ (14 - 2) = 4096 from rfl]
  generalize y / 4096 = q
  omega
theorem sd_eq (len : Nat) (s : Nat → Nat) (i : Nat) : sd (tk len (s 0)) (tk len (s 1)) (tk len (s 2)) (tk len (s 3)) i = tk len (s (i % 4)) := by
  have h : i % 4 = 0 ∨ i % 4 = 1 ∨ i % 4 = 2 ∨ i % 4 = 3 := by omega
  unfold sd
  rcases h with h | h | h | h <;> rw [h] <;> rfl
theorem quietL {P : Program} {f : FuncId} {args : Array Value} {w : World} {n : Nat} {v : Value}
    (h : Calls P f args (w.drewN n) fun e w' => e = .returned v ∧ w.drewN n = w') : Calls P f args (w.drewN n) fun e w'' => e = .returned v ∧ ∃ m, w'' = w.drewN m :=
  h.mono fun _ _ ⟨he, hm⟩ => ⟨he, n, hm.symm⟩

set_option maxRecDepth 100000 in
set_option maxHeartbeats 3200000 in
theorem azWrong (s : Nat → Nat) (len : Nat) (hlen : len = 10 ∨ len = 14) (hs : ∀ i, i < 4 → s i < 2 ^ len) (up : Nat) (hup : up < 4) (A : Option Addr) (c : Nat) (w : World) (h : Rd w A 4 (fun j => .int .i64 (s j : Nat))) :
    Calls Try.prog 35 #[.slice A 4 c, .int .i64 len, .int .i64 up] w fun e w' => e = .returned (.int .i64 (wrongC (tk len (s 0)) (tk len (s 1)) (tk len (s 2)) (tk len (s 3)) up 4 : Nat)) ∧ Below w.heap.size w w' := by
  obtain ⟨ab, ao, rfl, hal, hac⟩ := h (by omega)
  dsimp only at hac
  have HC := Lib.hid hac
  have HS := Lib.hid hs
  obtain ⟨wc, hwc⟩ : ∃ wc : Nat → Nat, wc = wrongC (tk len (s 0)) (tk len (s 1)) (tk len (s 2)) (tk len (s 3)) up := ⟨_, rfl⟩
  obtain ⟨wk, hwk⟩ : ∃ wk : Nat → Nat → Nat, wk = wrongK (tk len (s 0)) (tk len (s 1)) (tk len (s 2)) (tk len (s 3)) up := ⟨_, rfl⟩
  obtain ⟨md, hmd⟩ : ∃ md : Nat → Nat → Bool, md = mod3 (tk len (s 0)) (tk len (s 1)) (tk len (s 2)) (tk len (s 3)) up := ⟨_, rfl⟩
  have HWC : Hid (wc 0 = 0 ∧ ∀ n, wc (n + 1) = wc n + wk n 3) := Lib.hid (by rw [hwc, hwk]; exact ⟨rfl, fun _ => rfl⟩)
  have HWK : Hid (∀ n, wk n 0 = 0 ∧ ∀ k, wk n (k + 1) = wk n k + if md n k = AZ.mark n k then 0 else 1) := Lib.hid (by rw [hwk, hmd]; exact fun _ => ⟨rfl, fun _ => rfl⟩)
  have HMD := Lib.hid hmd
  rw [← hwc]
  clear h hac hs hwc hwk hmd
  go_enter Try.func35, Try.ntmps35
  go_wp2_with fail
  go_loopw [7, 8] (fun o i wr => ∃ n O : Nat, n ≤ 4 ∧ O ≤ 3 * n ∧ i = .int .i64 n ∧ o = .int .i64 O ∧ Below w.heap.size w wr ∧ Hid (O = wc n)) (fun _ i _ => 4 - (intOf i).toNat)
  case atStart => exact ⟨0, 0, by omega, by omega, rfl, rfl, Below.refl _ _, Lib.hid HWC.out.1.symm⟩
  case round =>
    obtain ⟨n, O, hn, hO, rfl, rfl, hbel, HO⟩ := hrel
    by_cases hlt : n < 4
    · obtain ⟨i, hi⟩ : ∃ i, i = (up + n + 3) % 4 := ⟨_, rfl⟩
      obtain ⟨j, hj⟩ : ∃ j, j = (up + n) % 4 := ⟨_, rfl⟩
      have ei : ((up : Int) + (n : Int) + 3) % 4 = (i : Int) := by omega
      have ej : ((up : Int) + (n : Int)) % 4 = (j : Int) := by omega
      have hi4 : i < 4 := by omega
      have hj4 : j < 4 := by omega
      have ci := (hbel.cell (p := ⟨ab, ao + i, none⟩) hal).trans (HC.out i hi4)
      have cj := (hbel.cell (p := ⟨ab, ao + j, none⟩) hal).trans (HC.out j hj4)
      have hi0 : (0 : Int) ≤ (i : Int) := by omega
      have hi1 : (i : Int) < 4 := by omega
      have hj0 : (0 : Int) ≤ (j : Int) := by omega
      have hj1 : (j : Int) < 4 := by omega
      have hxl := HS.out i hi4
      have hyl := HS.out j hj4
      obtain ⟨x, hx⟩ : ∃ x, x = s i := ⟨_, rfl⟩
      obtain ⟨y, hy⟩ : ∃ y, y = s j := ⟨_, rfl⟩
      rw [← hx] at ci hxl
      rw [← hy] at cj hyl
      have hn4 : (n : Int) < 4 := by omega
      rcases hlen with rfl | rfl
      · have hxl' : x < 1024 := hxl
        have hyl' : y < 1024 := hyl
        have hand0 := i64_and1 x (by omega)
        obtain ⟨m0, hm0⟩ : ∃ m, m = x % 2 := ⟨_, rfl⟩
        obtain ⟨y1, hy1⟩ : ∃ m, m = y / 512 := ⟨_, rfl⟩
        obtain ⟨y2, hy2⟩ : ∃ m, m = y / 256 := ⟨_, rfl⟩
        have ey1 : (y : Int) / 512 = (y1 : Int) := by omega
        have ey2 : (y : Int) / 256 = (y2 : Int) := by omega
        have hand1 := i64_and1 y1 (by omega)
        have hand2 := i64_and1 y2 (by omega)
        obtain ⟨m1, hm1⟩ : ∃ m, m = y1 % 2 := ⟨_, rfl⟩
        obtain ⟨m2, hm2⟩ : ∃ m, m = y2 % 2 := ⟨_, rfl⟩
        rw [← hm0] at hand0
        rw [← hm1] at hand1
        rw [← hm2] at hand2
        obtain ⟨b0, hb0⟩ : ∃ b, ((m0 : Int) == 1) = b := ⟨_, rfl⟩
        obtain ⟨b1, hb1⟩ : ∃ b, ((m1 : Int) == 1) = b := ⟨_, rfl⟩
        obtain ⟨b2, hb2⟩ : ∃ b, ((m2 : Int) == 1) = b := ⟨_, rfl⟩
        have HM0 : Hid (md n 0 = b0) := Lib.hid (by
          rw [HMD.out, ← hb0]; unfold mod3; rw [if_pos rfl, sd_eq, ← hi, ← hx, (tk_bits10 x).1]
          rw [Bool.eq_iff_iff]; simp; omega)
        have HM1 : Hid (md n 1 = b1) := Lib.hid (by
          rw [HMD.out, ← hb1]; unfold mod3; rw [if_neg (by omega), if_pos rfl, sd_eq, ← hj, ← hy, (tk_bits10 y).2.2, ← hy1]
          rw [Bool.eq_iff_iff]; simp; omega)
        have HM2 : Hid (md n 2 = b2) := Lib.hid (by
          rw [HMD.out, ← hb2]; unfold mod3; rw [if_neg (by omega), if_neg (by omega), sd_eq, ← hj, ← hy, (tk_bits10 y).2.1, ← hy2]
          rw [Bool.eq_iff_iff]; simp; omega)
        have HHI := Lib.hid hi
        have HHJ := Lib.hid hj
        have HBEL := Lib.hid hbel
        clear hi hj hx hy hy1 hy2 hm0 hm1 hm2 hxl hyl hbel
        go_wp2_with fail
        go_quiet (fail)
        obtain ⟨W1, hW1⟩ : ∃ W1, W1 = wr.drewN nq := ⟨_, rfl⟩
        have HB1 : Hid (Below w.heap.size w W1) := Lib.hid (by rw [hW1]; exact below_drewN HBEL.out _)
        have ci1 : W1.cell? ⟨ab, ao + i, none⟩ = some (.int .i64 x) := by rw [hW1]; exact ci
        rw [← hW1]
        clear hW1 ci cj HBEL
        go_wp2_with fail
        have hAr : Arr (W1.alloc (.cells #[.bool b0, .bool b1, .bool b2] 75)) 75 W1.heap.size [.bool b0, .bool b1, .bool b2] := Arr.new _ _ _
        have hB2 : Below w.heap.size w (W1.alloc (.cells #[.bool b0, .bool b1, .bool b2] 75)) := HB1.out.alloc HB1.out.size _
        obtain ⟨W2, hW2⟩ : ∃ W2, W2 = W1.alloc (.cells #[.bool b0, .bool b1, .bool b2] 75) := ⟨_, rfl⟩
        obtain ⟨H, hH⟩ : ∃ H, H = W1.heap.size := ⟨_, rfl⟩
        have HHW : Hid (w.heap.size ≤ H) := Lib.hid (by rw [hH]; exact HB1.out.size)
        rw [← hW2, ← hH] at hAr
        rw [← hW2] at hB2
        rw [← hW2, ← hH]
        clear hW2 hH HB1 ci1 hb0 hb1 hb2
        go_loopw [7, 12] (fun o i wr => ∃ k O' : Nat, k ≤ 3 ∧ O' ≤ 3 * n + k ∧ i = .int .i64 k ∧ o = .int .i64 O' ∧ Below w.heap.size w wr ∧ Arr wr 75 H [.bool b0, .bool b1, .bool b2] ∧ Hid (O' = wc n + wk n k)) (fun _ i _ => 3 - (intOf i).toNat)
        case atStart => exact ⟨0, O, by omega, by omega, rfl, rfl, hB2, hAr, Lib.hid (by rw [(HWK.out n).1, ← HO.out]; rfl)⟩
        case round =>
          obtain ⟨k, O', hk, hO', rfl, rfl, hbel, hA, HO'⟩ := hrel
          clear hAr hB2
          have hkk : k = 0 ∨ k = 1 ∨ k = 2 ∨ k = 3 := by omega
          have HBEL := Lib.hid hbel
          have a0 := hA.cell? 0
          have a1 := hA.cell? 1
          have a2 := hA.cell? 2
          simp only [List.getElem?_cons_zero, List.getElem?_cons_succ] at a0 a1 a2
          have HA := Lib.hid hA
          clear hbel hA
          rcases hkk with rfl | rfl | rfl | rfl
          · obtain ⟨m, hm⟩ : ∃ m, m = AZ.mark n 0 := ⟨_, rfl⟩
            have HMK := Lib.hid (fun W => azMark n 0 hlt (by omega) m hm W)
            have HM := Lib.hid hm
            clear hm
            by_cases hbm : b0 = m
            · have hne : (!b0 == m) = false := by rw [hbm]; cases m <;> rfl
              have HN : Hid (O' = wc n + wk n (0 + 1)) := Lib.hid (by rw [(HWK.out n).2, HM0.out, if_pos (by rw [← HM.out]; exact hbm), HO'.out]; rfl)
              clear hbm
              go_wp2_with fail
              go_quiet ((go_at_call 45; exact quietL (HMK.out _)))
              go_wp2_with fail
              go_roundw
              case rel => exact ⟨0 + 1, O', by omega, by omega, rfl, rfl, below_drewN HBEL.out _, HA.out.mod (Mod.drewN (Mod.refl (S := fun _ => False) _) _) (fun h => h), HN⟩
              case measure => simp [intOf]
            · have hne : (!b0 == m) = true := by revert hbm; cases b0 <;> cases m <;> simp
              have HN : Hid (O' + 1 = wc n + wk n (0 + 1)) := Lib.hid (by rw [(HWK.out n).2, HM0.out, if_neg (by rw [← HM.out]; exact hbm), HO'.out]; omega)
              clear hbm
              go_wp2_with fail
              go_quiet ((go_at_call 45; exact quietL (HMK.out _)))
              go_wp2_with fail
              go_roundw
              case rel => exact ⟨0 + 1, O' + 1, by omega, by omega, rfl, by go_num, below_drewN HBEL.out _, HA.out.mod (Mod.drewN (Mod.refl (S := fun _ => False) _) _) (fun h => h), HN⟩
              case measure => simp [intOf]
          · obtain ⟨m, hm⟩ : ∃ m, m = AZ.mark n 1 := ⟨_, rfl⟩
            have HMK := Lib.hid (fun W => azMark n 1 hlt (by omega) m hm W)
            have HM := Lib.hid hm
            clear hm
            by_cases hbm : b1 = m
            · have hne : (!b1 == m) = false := by rw [hbm]; cases m <;> rfl
              have HN : Hid (O' = wc n + wk n (1 + 1)) := Lib.hid (by rw [(HWK.out n).2, HM1.out, if_pos (by rw [← HM.out]; exact hbm), HO'.out]; rfl)
              clear hbm
              go_wp2_with fail
              go_quiet ((go_at_call 45; exact quietL (HMK.out _)))
              go_wp2_with fail
              go_roundw
              case rel => exact ⟨1 + 1, O', by omega, by omega, rfl, rfl, below_drewN HBEL.out _, HA.out.mod (Mod.drewN (Mod.refl (S := fun _ => False) _) _) (fun h => h), HN⟩
              case measure => simp [intOf]
            · have hne : (!b1 == m) = true := by revert hbm; cases b1 <;> cases m <;> simp
              have HN : Hid (O' + 1 = wc n + wk n (1 + 1)) := Lib.hid (by rw [(HWK.out n).2, HM1.out, if_neg (by rw [← HM.out]; exact hbm), HO'.out]; omega)
              clear hbm
              go_wp2_with fail
              go_quiet ((go_at_call 45; exact quietL (HMK.out _)))
              go_wp2_with fail
              go_roundw
              case rel => exact ⟨1 + 1, O' + 1, by omega, by omega, rfl, by go_num, below_drewN HBEL.out _, HA.out.mod (Mod.drewN (Mod.refl (S := fun _ => False) _) _) (fun h => h), HN⟩
              case measure => simp [intOf]
          · obtain ⟨m, hm⟩ : ∃ m, m = AZ.mark n 2 := ⟨_, rfl⟩
            have HMK := Lib.hid (fun W => azMark n 2 hlt (by omega) m hm W)
            have HM := Lib.hid hm
            clear hm
            by_cases hbm : b2 = m
            · have hne : (!b2 == m) = false := by rw [hbm]; cases m <;> rfl
              have HN : Hid (O' = wc n + wk n (2 + 1)) := Lib.hid (by rw [(HWK.out n).2, HM2.out, if_pos (by rw [← HM.out]; exact hbm), HO'.out]; rfl)
              clear hbm
              go_wp2_with fail
              go_quiet ((go_at_call 45; exact quietL (HMK.out _)))
              go_wp2_with fail
              go_roundw
              case rel => exact ⟨2 + 1, O', by omega, by omega, rfl, rfl, below_drewN HBEL.out _, HA.out.mod (Mod.drewN (Mod.refl (S := fun _ => False) _) _) (fun h => h), HN⟩
              case measure => simp [intOf]
            · have hne : (!b2 == m) = true := by revert hbm; cases b2 <;> cases m <;> simp
              have HN : Hid (O' + 1 = wc n + wk n (2 + 1)) := Lib.hid (by rw [(HWK.out n).2, HM2.out, if_neg (by rw [← HM.out]; exact hbm), HO'.out]; omega)
              clear hbm
              go_wp2_with fail
              go_quiet ((go_at_call 45; exact quietL (HMK.out _)))
              go_wp2_with fail
              go_roundw
              case rel => exact ⟨2 + 1, O' + 1, by omega, by omega, rfl, by go_num, below_drewN HBEL.out _, HA.out.mod (Mod.drewN (Mod.refl (S := fun _ => False) _) _) (fun h => h), HN⟩
              case measure => simp [intOf]
          · have HN : Hid (O' = wc (n + 1)) := Lib.hid (by rw [HWC.out.2, HO'.out])
            go_wp2_with fail
            go_roundw
            case rel => exact ⟨n + 1, O', by omega, by omega, by go_num, rfl, HBEL.out, HN⟩
            case measure => simp [intOf]; omega
      · have hxl' : x < 16384 := hxl
        have hyl' : y < 16384 := hyl
        have hand0 := i64_and1 x (by omega)
        obtain ⟨m0, hm0⟩ : ∃ m, m = x % 2 := ⟨_, rfl⟩
        obtain ⟨y1, hy1⟩ : ∃ m, m = y / 8192 := ⟨_, rfl⟩
        obtain ⟨y2, hy2⟩ : ∃ m, m = y / 4096 := ⟨_, rfl⟩
        have ey1 : (y : Int) / 8192 = (y1 : Int) := by omega
        have ey2 : (y : Int) / 4096 = (y2 : Int) := by omega
        have hand1 := i64_and1 y1 (by omega)
        have hand2 := i64_and1 y2 (by omega)
        obtain ⟨m1, hm1⟩ : ∃ m, m = y1 % 2 := ⟨_, rfl⟩
        obtain ⟨m2, hm2⟩ : ∃ m, m = y2 % 2 := ⟨_, rfl⟩
        rw [← hm0] at hand0
        rw [← hm1] at hand1
        rw [← hm2] at hand2
        obtain ⟨b0, hb0⟩ : ∃ b, ((m0 : Int) == 1) = b := ⟨_, rfl⟩
        obtain ⟨b1, hb1⟩ : ∃ b, ((m1 : Int) == 1) = b := ⟨_, rfl⟩
        obtain ⟨b2, hb2⟩ : ∃ b, ((m2 : Int) == 1) = b := ⟨_, rfl⟩
        have HM0 : Hid (md n 0 = b0) := Lib.hid (by
          rw [HMD.out, ← hb0]; unfold mod3; rw [if_pos rfl, sd_eq, ← hi, ← hx, (tk_bits14 x).1]
          rw [Bool.eq_iff_iff]; simp; omega)
        have HM1 : Hid (md n 1 = b1) := Lib.hid (by
          rw [HMD.out, ← hb1]; unfold mod3; rw [if_neg (by omega), if_pos rfl, sd_eq, ← hj, ← hy, (tk_bits14 y).2.2, ← hy1]
          rw [Bool.eq_iff_iff]; simp; omega)
        have HM2 : Hid (md n 2 = b2) := Lib.hid (by
          rw [HMD.out, ← hb2]; unfold mod3; rw [if_neg (by omega), if_neg (by omega), sd_eq, ← hj, ← hy, (tk_bits14 y).2.1, ← hy2]
          rw [Bool.eq_iff_iff]; simp; omega)
        have HHI := Lib.hid hi
        have HHJ := Lib.hid hj
        have HBEL := Lib.hid hbel
        clear hi hj hx hy hy1 hy2 hm0 hm1 hm2 hxl hyl hbel
        go_wp2_with fail
        go_quiet (fail)
        obtain ⟨W1, hW1⟩ : ∃ W1, W1 = wr.drewN nq := ⟨_, rfl⟩
        have HB1 : Hid (Below w.heap.size w W1) := Lib.hid (by rw [hW1]; exact below_drewN HBEL.out _)
        have ci1 : W1.cell? ⟨ab, ao + i, none⟩ = some (.int .i64 x) := by rw [hW1]; exact ci
        rw [← hW1]
        clear hW1 ci cj HBEL
        go_wp2_with fail
        have hAr : Arr (W1.alloc (.cells #[.bool b0, .bool b1, .bool b2] 75)) 75 W1.heap.size [.bool b0, .bool b1, .bool b2] := Arr.new _ _ _
        have hB2 : Below w.heap.size w (W1.alloc (.cells #[.bool b0, .bool b1, .bool b2] 75)) := HB1.out.alloc HB1.out.size _
        obtain ⟨W2, hW2⟩ : ∃ W2, W2 = W1.alloc (.cells #[.bool b0, .bool b1, .bool b2] 75) := ⟨_, rfl⟩
        obtain ⟨H, hH⟩ : ∃ H, H = W1.heap.size := ⟨_, rfl⟩
        have HHW : Hid (w.heap.size ≤ H) := Lib.hid (by rw [hH]; exact HB1.out.size)
        rw [← hW2, ← hH] at hAr
        rw [← hW2] at hB2
        rw [← hW2, ← hH]
        clear hW2 hH HB1 ci1 hb0 hb1 hb2
        go_loopw [7, 12] (fun o i wr => ∃ k O' : Nat, k ≤ 3 ∧ O' ≤ 3 * n + k ∧ i = .int .i64 k ∧ o = .int .i64 O' ∧ Below w.heap.size w wr ∧ Arr wr 75 H [.bool b0, .bool b1, .bool b2] ∧ Hid (O' = wc n + wk n k)) (fun _ i _ => 3 - (intOf i).toNat)
        case atStart => exact ⟨0, O, by omega, by omega, rfl, rfl, hB2, hAr, Lib.hid (by rw [(HWK.out n).1, ← HO.out]; rfl)⟩
        case round =>
          obtain ⟨k, O', hk, hO', rfl, rfl, hbel, hA, HO'⟩ := hrel
          clear hAr hB2
          have hkk : k = 0 ∨ k = 1 ∨ k = 2 ∨ k = 3 := by omega
          have HBEL := Lib.hid hbel
          have a0 := hA.cell? 0
          have a1 := hA.cell? 1
          have a2 := hA.cell? 2
          simp only [List.getElem?_cons_zero, List.getElem?_cons_succ] at a0 a1 a2
          have HA := Lib.hid hA
          clear hbel hA
          rcases hkk with rfl | rfl | rfl | rfl
          · obtain ⟨m, hm⟩ : ∃ m, m = AZ.mark n 0 := ⟨_, rfl⟩
            have HMK := Lib.hid (fun W => azMark n 0 hlt (by omega) m hm W)
            have HM := Lib.hid hm
            clear hm
            by_cases hbm : b0 = m
            · have hne : (!b0 == m) = false := by rw [hbm]; cases m <;> rfl
              have HN : Hid (O' = wc n + wk n (0 + 1)) := Lib.hid (by rw [(HWK.out n).2, HM0.out, if_pos (by rw [← HM.out]; exact hbm), HO'.out]; rfl)
              clear hbm
              go_wp2_with fail
              go_quiet ((go_at_call 45; exact quietL (HMK.out _)))
              go_wp2_with fail
              go_roundw
              case rel => exact ⟨0 + 1, O', by omega, by omega, rfl, rfl, below_drewN HBEL.out _, HA.out.mod (Mod.drewN (Mod.refl (S := fun _ => False) _) _) (fun h => h), HN⟩
              case measure => simp [intOf]
            · have hne : (!b0 == m) = true := by revert hbm; cases b0 <;> cases m <;> simp
              have HN : Hid (O' + 1 = wc n + wk n (0 + 1)) := Lib.hid (by rw [(HWK.out n).2, HM0.out, if_neg (by rw [← HM.out]; exact hbm), HO'.out]; omega)
              clear hbm
              go_wp2_with fail
              go_quiet ((go_at_call 45; exact quietL (HMK.out _)))
              go_wp2_with fail
              go_roundw
              case rel => exact ⟨0 + 1, O' + 1, by omega, by omega, rfl, by go_num, below_drewN HBEL.out _, HA.out.mod (Mod.drewN (Mod.refl (S := fun _ => False) _) _) (fun h => h), HN⟩
              case measure => simp [intOf]
          · obtain ⟨m, hm⟩ : ∃ m, m = AZ.mark n 1 := ⟨_, rfl⟩
            have HMK := Lib.hid (fun W => azMark n 1 hlt (by omega) m hm W)
            have HM := Lib.hid hm
            clear hm
            by_cases hbm : b1 = m
            · have hne : (!b1 == m) = false := by rw [hbm]; cases m <;> rfl
              have HN : Hid (O' = wc n + wk n (1 + 1)) := Lib.hid (by rw [(HWK.out n).2, HM1.out, if_pos (by rw [← HM.out]; exact hbm), HO'.out]; rfl)
              clear hbm
              go_wp2_with fail
              go_quiet ((go_at_call 45; exact quietL (HMK.out _)))
              go_wp2_with fail
              go_roundw
              case rel => exact ⟨1 + 1, O', by omega, by omega, rfl, rfl, below_drewN HBEL.out _, HA.out.mod (Mod.drewN (Mod.refl (S := fun _ => False) _) _) (fun h => h), HN⟩
              case measure => simp [intOf]
            · have hne : (!b1 == m) = true := by revert hbm; cases b1 <;> cases m <;> simp
              have HN : Hid (O' + 1 = wc n + wk n (1 + 1)) := Lib.hid (by rw [(HWK.out n).2, HM1.out, if_neg (by rw [← HM.out]; exact hbm), HO'.out]; omega)
              clear hbm
              go_wp2_with fail
              go_quiet ((go_at_call 45; exact quietL (HMK.out _)))
              go_wp2_with fail
              go_roundw
              case rel => exact ⟨1 + 1, O' + 1, by omega, by omega, rfl, by go_num, below_drewN HBEL.out _, HA.out.mod (Mod.drewN (Mod.refl (S := fun _ => False) _) _) (fun h => h), HN⟩
              case measure => simp [intOf]
          · obtain ⟨m, hm⟩ : ∃ m, m = AZ.mark n 2 := ⟨_, rfl⟩
            have HMK := Lib.hid (fun W => azMark n 2 hlt (by omega) m hm W)
            have HM := Lib.hid hm
            clear hm
            by_cases hbm : b2 = m
            · have hne : (!b2 == m) = false := by rw [hbm]; cases m <;> rfl
              have HN : Hid (O' = wc n + wk n (2 + 1)) := Lib.hid (by rw [(HWK.out n).2, HM2.out, if_pos (by rw [← HM.out]; exact hbm), HO'.out]; rfl)
              clear hbm
              go_wp2_with fail
              go_quiet ((go_at_call 45; exact quietL (HMK.out _)))
              go_wp2_with fail
              go_roundw
              case rel => exact ⟨2 + 1, O', by omega, by omega, rfl, rfl, below_drewN HBEL.out _, HA.out.mod (Mod.drewN (Mod.refl (S := fun _ => False) _) _) (fun h => h), HN⟩
              case measure => simp [intOf]
            · have hne : (!b2 == m) = true := by revert hbm; cases b2 <;> cases m <;> simp
              have HN : Hid (O' + 1 = wc n + wk n (2 + 1)) := Lib.hid (by rw [(HWK.out n).2, HM2.out, if_neg (by rw [← HM.out]; exact hbm), HO'.out]; omega)
              clear hbm
              go_wp2_with fail
              go_quiet ((go_at_call 45; exact quietL (HMK.out _)))
              go_wp2_with fail
              go_roundw
              case rel => exact ⟨2 + 1, O' + 1, by omega, by omega, rfl, by go_num, below_drewN HBEL.out _, HA.out.mod (Mod.drewN (Mod.refl (S := fun _ => False) _) _) (fun h => h), HN⟩
              case measure => simp [intOf]
          · have HN : Hid (O' = wc (n + 1)) := Lib.hid (by rw [HWC.out.2, HO'.out])
            go_wp2_with fail
            go_roundw
            case rel => exact ⟨n + 1, O', by omega, by omega, by go_num, rfl, HBEL.out, HN⟩
            case measure => simp [intOf]; omega
    · obtain rfl : n = 4 := by omega
      go_wp2_with fail
      go_ret
      exact ⟨by rw [← HO.out]; rfl, hbel⟩
end Go.Proofs.Ytpgkbhlgechpmaa
