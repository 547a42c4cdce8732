/-
  GetVersionForNumber, GetProvisionalVersionForDimension, QRSize, and the statement FnQRSizes, walked. No condition.
-/
import Derived.Test.YtpeipolknphjhaaQVa
import Derived.Test.YtpeipolknphjhaaQVb
import Derived.Test.YtpeipolknphjhaaQVc
import Derived.Test.YtpeipolknphjhaaQVd
namespace Go.Proofs.Ytpeipolknphjhaa
open Go.RowKit Go.Qz
set_option linter.unusedVariables false

theorem versionOfAll (n : Nat) (h1 : 1 ≤ n) (h2 : n ≤ 40) (w : World) : Calls Try.prog 60 #[.int .i64 n] w (VersionIs n w) := by
  have h : n = 1 ∨ n = 2 ∨ n = 3 ∨ n = 4 ∨ n = 5 ∨ n = 6 ∨ n = 7 ∨ n = 8 ∨ n = 9 ∨ n = 10 ∨ n = 11 ∨ n = 12 ∨ n = 13 ∨ n = 14 ∨ n = 15 ∨ n = 16 ∨ n = 17 ∨ n = 18 ∨ n = 19 ∨ n = 20 ∨ n = 21 ∨ n = 22 ∨ n = 23 ∨ n = 24 ∨ n = 25 ∨ n = 26 ∨ n = 27 ∨ n = 28 ∨ n = 29 ∨ n = 30 ∨ n = 31 ∨ n = 32 ∨ n = 33 ∨ n = 34 ∨ n = 35 ∨ n = 36 ∨ n = 37 ∨ n = 38 ∨ n = 39 ∨ n = 40 := by omega
  rcases h with rfl | rfl | rfl | rfl | rfl | rfl | rfl | rfl | rfl | rfl | rfl | rfl | rfl | rfl | rfl | rfl | rfl | rfl | rfl | rfl | rfl | rfl | rfl | rfl | rfl | rfl | rfl | rfl | rfl | rfl | rfl | rfl | rfl | rfl | rfl | rfl | rfl | rfl | rfl | rfl
  · exact versionOf1 w
  · exact versionOf2 w
  · exact versionOf3 w
  · exact versionOf4 w
  · exact versionOf5 w
  · exact versionOf6 w
  · exact versionOf7 w
  · exact versionOf8 w
  · exact versionOf9 w
  · exact versionOf10 w
  · exact versionOf11 w
  · exact versionOf12 w
  · exact versionOf13 w
  · exact versionOf14 w
  · exact versionOf15 w
  · exact versionOf16 w
  · exact versionOf17 w
  · exact versionOf18 w
  · exact versionOf19 w
  · exact versionOf20 w
  · exact versionOf21 w
  · exact versionOf22 w
  · exact versionOf23 w
  · exact versionOf24 w
  · exact versionOf25 w
  · exact versionOf26 w
  · exact versionOf27 w
  · exact versionOf28 w
  · exact versionOf29 w
  · exact versionOf30 w
  · exact versionOf31 w
  · exact versionOf32 w
  · exact versionOf33 w
  · exact versionOf34 w
  · exact versionOf35 w
  · exact versionOf36 w
  · exact versionOf37 w
  · exact versionOf38 w
  · exact versionOf39 w
  · exact versionOf40 w

def IsErr (v : Value) : Prop := ∃ b : Nat, v = .iface 111 (.pointer (some ⟨b, 0, none⟩))
set_option maxRecDepth 100000 in
theorem err_new (s : ByteArray) (w : World) :
    Calls Try.prog 56 #[.string s] w fun e w' => ∃ v, e = .returned v ∧ IsErr v ∧ Below w.heap.size w w' := by
  go_enter Try.func56, Try.ntmps56
  go_wp2_with fail
  go_ret
  exact ⟨_, rfl, ⟨_, rfl⟩, (Below.refl _ _).alloc (Nat.le_refl _) _⟩
theorem errIface : Try.prog.underlying 69 = some (.interface (Try.prog.methodsAt 69)) := by kernel_rfl

/-- A version, or an error. -/
def VerPost (v : Int) (w : World) (e : Ending) (w' : World) : Prop := Below w.heap.size w w' ∧
  ((1 ≤ v ∧ v ≤ 40) ∧ (∃ p, e = .returned (.tuple #[.pointer (some ⟨p, 0, none⟩), .nilIface]) ∧ w'.cell? ⟨p, 0, none⟩ = some (.int .i64 v)) ∨
   ¬ (1 ≤ v ∧ v ≤ 40) ∧ ∃ x, e = .returned (.tuple #[.pointer none, x]) ∧ IsErr x)

set_option maxRecDepth 100000 in
set_option maxHeartbeats 800000 in
theorem getVersion (v : Int) (h1 : -9223372036854775808 ≤ v) (h2 : v ≤ 9223372036854775807) (w : World) :
    Calls Try.prog 44 #[.int .i64 v] w (VerPost v w) := by
  by_cases hv : 1 ≤ v ∧ v ≤ 40
  · obtain ⟨n, rfl⟩ : ∃ n : Nat, v = n := ⟨v.toNat, by omega⟩
    obtain ⟨hv1, hv2⟩ := hv
    have HV := Lib.hid (versionOfAll n (by omega) (by omega) w)
    have g1 : decide ((n : Int) < 1) = false := by simp; omega
    have g2 : decide ((40 : Int) < (n : Int)) = false := by simp; omega
    clear h1 h2
    go_enter Try.func44, Try.ntmps44
    go_wp2_with fail
    refine HV.out.mono ?_
    rintro e w1 ⟨p, rfl, hc, hb⟩
    have HC := Lib.hid hc
    have HB := Lib.hid hb
    clear hc hb
    go_wp2_with fail
    go_ret2
    exact ⟨HB.out, .inl ⟨⟨hv1, hv2⟩, p, rfl, HC.out⟩⟩
  · have HV := Lib.hid hv
    by_cases hl : v < 1
    · clear hv h1 h2
      go_enter Try.func44, Try.ntmps44
      go_wp2_with fail
      refine (err_new _ _).mono ?_
      rintro e w1 ⟨x, rfl, hx, hb⟩
      have HB := Lib.hid hb
      clear hb
      go_wp2_with fail
      go_ret2
      exact ⟨HB.out, .inr ⟨HV.out, x, rfl, hx⟩⟩
    · have hl1 : decide (v < 1) = false := by simp; omega
      have hl2 : 40 < v := by omega
      have hl3 : 1 ≤ v := by omega
      clear hv h1 h2 hl
      go_enter Try.func44, Try.ntmps44
      go_wp2_with fail
      refine (err_new _ _).mono ?_
      rintro e w1 ⟨x, rfl, hx, hb⟩
      have HB := Lib.hid hb
      clear hb
      go_wp2_with fail
      go_ret2
      exact ⟨HB.out, .inr ⟨HV.out, x, rfl, hx⟩⟩

/-- The version of a side, or none. -/
def SizePost (d : Int) (w : World) (e : Ending) (w' : World) : Prop := Below w.heap.size w w' ∧
  ((∃ n : Nat, 1 ≤ n ∧ n ≤ 40 ∧ d = 17 + 4 * n ∧ ∃ p, e = .returned (.tuple #[.pointer (some ⟨p, 0, none⟩), .nilIface]) ∧ w'.cell? ⟨p, 0, none⟩ = some (.int .i64 n)) ∨
   (∀ n : Nat, 1 ≤ n → n ≤ 40 → d ≠ 17 + 4 * n) ∧ ∃ x, e = .returned (.tuple #[.pointer none, x]) ∧ IsErr x)

set_option maxRecDepth 100000 in
set_option maxHeartbeats 800000 in
theorem provisional (d : Int) (h1 : -9223372036854775808 ≤ d) (h2 : d ≤ 9223372036854775807) (w : World) :
    Calls Try.prog 40 #[.int .i64 d] w (SizePost d w) := by
  by_cases hm : d.tmod 4 = 1
  · have hd0 : 0 ≤ d := by
      rcases Int.le_total 0 d with h | h
      · exact h
      · have h3 : (-d).tmod 4 = -(d.tmod 4) := Int.neg_tmod d 4
        have h4 := Int.tmod_nonneg 4 (show 0 ≤ -d by omega)
        omega
    obtain ⟨m, hmd⟩ : ∃ m : Nat, d = 4 * m + 1 := ⟨(d / 4).toNat, by rw [Int.tmod_eq_emod_of_nonneg hd0] at hm; omega⟩
    obtain ⟨v, hv⟩ : ∃ v : Int, v = m - 4 := ⟨_, rfl⟩
    have e1 : (d - 17).tdiv 4 = v := by
      have : d - 17 = v * 4 := by omega
      rw [this, Int.mul_tdiv_cancel _ (by omega)]
    have HG := Lib.hid (getVersion v (by omega) (by omega) w)
    have hm2 : d % 4 = 1 := by omega
    have hw1 : IntKind.i64.wrap (d - 17) = d - 17 := by rw [IntKind.wrap_i64]; omega
    have hwv : IntKind.i64.wrap v = v := by rw [IntKind.wrap_i64]; omega
    have HD : Hid (d = 17 + 4 * v) := Lib.hid (by omega)
    clear hmd hv
    go_enter Try.func40, Try.ntmps40
    go_wp2_with fail
    refine HG.out.mono ?_
    rintro e w1 ⟨hb, ⟨hv, p, rfl, hc⟩ | ⟨hv, x, rfl, hx⟩⟩
    · have HB := Lib.hid hb
      have HC := Lib.hid hc
      have HV := Lib.hid hv
      clear hb hc hv
      go_wp2_with fail
      go_ret2
      have hdd := HD.out
      have hvv := HV.out
      exact ⟨HB.out, .inl ⟨v.toNat, by omega, by omega, by omega, p, rfl, by rw [show ((v.toNat : Nat) : Int) = v by omega]; exact HC.out⟩⟩
    · have HB := Lib.hid hb
      have HV := Lib.hid hv
      clear hb hv
      go_wp2_with fail
      go_ret2
      exact ⟨HB.out, .inr ⟨fun n h1 h2 h3 => HV.out (by have := HD.out; omega), x, rfl, hx⟩⟩
  · have hm1 : (d.tmod 4 == 1) = false := by simpa using hm
    have hm2 : (d.tmod 4 != 1) = true := by simpa using hm
    have HM := Lib.hid hm
    clear hm
    go_enter Try.func40, Try.ntmps40
    go_wp2_with fail
    refine (err_new _ _).mono ?_
    rintro e w1 ⟨x, rfl, hx, hb⟩
    have HB := Lib.hid hb
    clear hb
    go_wp2_with fail
    go_ret2
    exact ⟨HB.out, .inr ⟨fun n h1 h2 h3 => HM.out (by rw [h3, Int.tmod_eq_emod_of_nonneg (by omega)]; omega), x, rfl, hx⟩⟩

/-- What QRSize says. -/
def QSizePost (d : Int) (w : World) (e : Ending) (w' : World) : Prop := Below w.heap.size w w' ∧
  ((∃ n : Nat, 1 ≤ n ∧ n ≤ 40 ∧ d = 17 + 4 * n ∧ e = .returned (.tuple #[.int .i64 n, .bool true])) ∨
   (∀ n : Nat, 1 ≤ n → n ≤ 40 → d ≠ 17 + 4 * n) ∧ e = .returned (.tuple #[.int .i64 0, .bool false]))

set_option maxRecDepth 100000 in
set_option maxHeartbeats 800000 in
theorem qrSize (d : Int) (h1 : -9223372036854775808 ≤ d) (h2 : d ≤ 9223372036854775807) (w : World) :
    Calls Try.prog 15 #[.int .i64 d] w (QSizePost d w) := by
  have HP := Lib.hid (provisional d h1 h2 w)
  have hneq : ∀ W, (binOp .neq 69 .nilIface .nilIface).run Try.prog W = .ok (.bool false) W := fun W => rfl
  clear h1 h2
  go_enter Try.func15, Try.ntmps15
  go_wp2_with fail
  refine HP.out.mono ?_
  rintro e w1 ⟨hb, ⟨n, hn1, hn2, hd, p, rfl, hc⟩ | ⟨hv, x, rfl, ⟨b, rfl⟩⟩⟩
  · have HB := Lib.hid hb
    have HD := Lib.hid hd
    have HN := Lib.hid (versionNumber p n w1 hc)
    clear hb hd hc
    go_wp2_with fail
    refine HN.out.mono ?_
    rintro e w2 ⟨rfl, rfl⟩
    go_wp2_with fail
    go_ret2
    exact ⟨HB.out, .inl ⟨n, hn1, hn2, HD.out, rfl⟩⟩
  · have HB := Lib.hid hb
    have HV := Lib.hid hv
    have hneq2 : ∀ W, (binOp .neq 69 (.iface 111 (.pointer (some ⟨b, 0, none⟩))) .nilIface).run Try.prog W = .ok (.bool true) W := fun W => run_neq_held_nil W _ _ _ errIface
    clear hb hv
    go_wp2_with fail
    go_ret2
    exact ⟨HB.out, .inr ⟨HV.out, rfl⟩⟩

set_option maxRecDepth 100000 in
set_option maxHeartbeats 800000 in
theorem qrDimension (v : Nat) (hv : v ≤ 1000) (D : Int) (hD : D = 17 + 4 * (v : Int)) (w : World) :
    Calls Try.prog 16 #[.int .i64 v] w fun e w' => e = .returned (.int .i64 D) ∧ w = w' := by
  have e1 : (17 : Int) + 4 * (v : Int) = D := hD.symm
  clear hD
  go_enter Try.func16, Try.ntmps16
  go_wp2_with fail
  go_ret
  exact ⟨by first | rfl | (rw [e1]), rfl⟩

set_option maxRecDepth 100000 in
set_option maxHeartbeats 1600000 in
theorem fnQRSizes (w : World) (d : Int) (hd : (Lit.int .i64 d).wf = true) :
    Calls Try.prog 5 #[.int .i64 d] w fun e w' => e = .returned (.bool true) ∧ Below w.heap.size w w' := by
  obtain ⟨h1, h2⟩ := bd_i64 hd
  have HQ := Lib.hid (qrSize d h1 h2 w)
  clear h1 h2 hd
  go_enter Try.func5, Try.ntmps5
  go_wp2_with fail
  refine HQ.out.mono ?_
  rintro e w1 ⟨hb, ⟨n, hn1, hn2, hdn, rfl⟩ | ⟨hv, rfl⟩⟩
  · have HB := Lib.hid hb
    have HD := Lib.hid hdn
    clear hb hdn
    go_wp2_with fail
    go_loop [5] (fun i => ∃ k : Nat, 1 ≤ k ∧ k ≤ n ∧ i = .int .i64 k) (fun i => 41 - (intOf i).toNat)
    case atStart => exact ⟨1, by omega, by omega, rfl⟩
    case round =>
      obtain ⟨k, hk1, hk2, rfl⟩ := hrel
      have hk3 : (k : Int) ≤ 40 := by omega
      obtain ⟨D, hD⟩ : ∃ D : Int, D = 17 + 4 * (k : Int) := ⟨_, rfl⟩
      have HDM := Lib.hid (fun W => qrDimension k (by omega) D hD W)
      by_cases hkn : k = n
      · subst hkn
        have hDd : D = d := by rw [hD, HD.out]
        subst hDd
        have hq : ((k : Int) == (k : Int)) = true := by simp
        clear hD
        go_wp2_with fail
        refine (HDM.out _).mono ?_
        rintro e w2 ⟨rfl, rfl⟩
        go_wp2_with fail
        go_ret
        exact ⟨rfl, HB.out⟩
      · have hne : (D == d) = false := by have := HD.out; simp; omega
        clear hD
        go_wp2_with fail
        refine (HDM.out _).mono ?_
        rintro e w2 ⟨rfl, rfl⟩
        go_wp2_with fail
        go_round
        case rel => exact ⟨k + 1, by omega, by omega, by go_num⟩
        case measure => simp [intOf]; omega
  · have HB := Lib.hid hb
    have HV := Lib.hid hv
    clear hb hv
    go_wp2_with fail
    go_loop [5] (fun i => ∃ k : Nat, 1 ≤ k ∧ k ≤ 41 ∧ i = .int .i64 k) (fun i => 41 - (intOf i).toNat)
    case atStart => exact ⟨1, by omega, by omega, rfl⟩
    case round =>
      obtain ⟨k, hk1, hk2, rfl⟩ := hrel
      by_cases hk : k ≤ 40
      · have hk3 : (k : Int) ≤ 40 := by omega
        obtain ⟨D, hD⟩ : ∃ D : Int, D = 17 + 4 * (k : Int) := ⟨_, rfl⟩
        have HDM := Lib.hid (fun W => qrDimension k (by omega) D hD W)
        have hne : (D == d) = false := by have := HV.out k hk1 hk; simp; omega
        clear hD
        go_wp2_with fail
        refine (HDM.out _).mono ?_
        rintro e w2 ⟨rfl, rfl⟩
        go_wp2_with fail
        go_round
        case rel => exact ⟨k + 1, by omega, by omega, by go_num⟩
        case measure => simp [intOf]; omega
      · obtain rfl : k = 41 := by omega
        go_wp2_with fail
        go_ret
        exact ⟨rfl, HB.out⟩
end Go.Proofs.Ytpeipolknphjhaa
