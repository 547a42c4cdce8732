/-
  Small numbers as text; bytes read from a source of bits. No condition beyond the bounds that each theorem states.
-/
import Derived.Test.YthnepajhiialpaaDoorSTR
import Derived.Test.YthnepajhiialpaaDoorBIS3
namespace Go.Proofs.YthnepajhiialpaaDoor
open Go.RowKit Go.Qz Go.Qz.BS
set_option linter.unusedVariables false

/-- The digits of a number below 100. -/
def digs (v : Nat) : List Nat := if v < 10 then [48 + v] else [48 + v / 10, 48 + v % 10]
def oneS : ByteArray := bs [48, 49, 50, 51, 52, 53, 54, 55, 56, 57, 97, 98, 99, 100, 101, 102, 103, 104, 105, 106, 107, 108, 109, 110, 111, 112, 113, 114, 115, 116, 117, 118, 119, 120, 121, 122]
def twoS : ByteArray := bs ((List.range 100).flatMap fun v => [48 + v / 10, 48 + v % 10])
theorem oneS_at : ∀ v, v < 10 → oneS.extract v (v + 1) = bs (digs v) := by decide +kernel
theorem twoS_at : ∀ v, v < 100 → 10 ≤ v → twoS.extract (v * 2) (v * 2 + 2) = bs (digs v) := by decide +kernel
theorem one_key {S : ByteArray} (h : S = oneS) {v a b : Nat} (hv : v < 10) (ha : a = v) (hb : b = v + 1) : S.extract a b = bs (digs v) := by
  subst h ha hb; exact oneS_at _ hv
theorem two_key {S : ByteArray} (h : S = twoS) {v a b : Nat} (hv : v < 100) (hv1 : 10 ≤ v) (ha : a = v * 2) (hb : b = v * 2 + 2) : S.extract a b = bs (digs v) := by
  subst h ha hb; exact twoS_at _ hv hv1
def DigPost (v : Nat) (w : World) (e : Ending) (w' : World) : Prop := ∃ s : ByteArray, e = .returned (.string s) ∧ s = bs (digs v) ∧ w = w'
set_option maxRecDepth 100000 in
theorem smallText (v : Nat) (hv : v < 100) (w : World) : Calls Tryd.prog 61 #[.int .i64 v] w (DigPost v w) := by
  by_cases h : v < 10
  · have h1 : (v : Int) < 10 := by omega
    have h0 : (0 : Int) ≤ (v : Int) := by omega
    go_enter Tryd.func61, Tryd.ntmps61
    go_wp2_with fail
    go_ret
    exact ⟨_, rfl, one_key (by kernel_rfl) h (by omega) (by omega), rfl⟩
  · have h1 : ((v : Int) < 10) = False := by simp; omega
    have h0 : (0 : Int) ≤ (v : Int) := by omega
    obtain ⟨v2, hv2⟩ : ∃ x, x = v * 2 := ⟨_, rfl⟩
    obtain ⟨v3, hv3⟩ : ∃ x, x = v2 + 2 := ⟨_, rfl⟩
    have e1 : (v : Int) * 2 = (v2 : Int) := by omega
    have e2 : (v2 : Int) + 2 = (v3 : Int) := by omega
    have hb : v2 ≤ 198 ∧ v3 ≤ 200 := by omega
    have HV := Lib.hid (And.intro hv2 hv3)
    have HV1 := Lib.hid h
    clear hv2 hv3 h
    go_enter Tryd.func61, Tryd.ntmps61
    go_wp2_with fail
    go_ret
    exact ⟨_, rfl, two_key (v := v) (by kernel_rfl) hv (by have := HV1.out; omega) (by have := HV.out; omega) (by have := HV.out; omega), rfl⟩
set_option maxRecDepth 100000 in
theorem formatSmall (v : Nat) (hv : v < 100) (w : World) : Calls Tryd.prog 60 #[.int .i64 v, .int .i64 10] w (DigPost v w) := by
  have HS := Lib.hid (smallText v hv w)
  have h0 : (0 : Int) ≤ (v : Int) := by omega
  have h1 : (v : Int) < 100 := by omega
  have d0 : decide ((0 : Int) ≤ (v : Int)) = true := by simp
  have d1 : decide ((v : Int) < 100) = true := by simp; omega
  go_enter Tryd.func60, Tryd.ntmps60
  go_wp2_with fail
  refine HS.out.mono ?_
  rintro e w1 ⟨s, rfl, hs, rfl⟩
  have HSZ := Lib.hid hs
  clear hs
  go_wp2_with fail
  go_ret
  exact ⟨s, rfl, HSZ.out, rfl⟩
set_option maxRecDepth 100000 in
theorem itoaIn (v : Nat) (hv : v < 100) (w : World) : Calls Tryd.prog 59 #[.int .i64 v] w (DigPost v w) := by
  have HS := Lib.hid (formatSmall v hv w)
  go_enter Tryd.func59, Tryd.ntmps59
  go_wp2_with fail
  refine HS.out.mono ?_
  rintro e w1 ⟨s, rfl, hs, rfl⟩
  have HSZ := Lib.hid hs
  clear hs
  go_wp2_with fail
  go_ret
  exact ⟨s, rfl, HSZ.out, rfl⟩
set_option maxRecDepth 100000 in
theorem itoa (v : Nat) (hv : v < 100) (w : World) : Calls Tryd.prog 45 #[.int .i64 v] w (DigPost v w) := by
  have HS := Lib.hid (itoaIn v hv w)
  go_enter Tryd.func45, Tryd.ntmps45
  go_wp2_with fail
  refine HS.out.mono ?_
  rintro e w1 ⟨s, rfl, hs, rfl⟩
  have HSZ := Lib.hid hs
  clear hs
  go_wp2_with fail
  go_ret
  exact ⟨s, rfl, HSZ.out, rfl⟩
theorem read8 (B : List Nat) (p : Nat) (A : Option Addr) (n c q : Nat) (hn : n = B.length) (hq : q < n) (hB : ∀ j, nth B j < 256) (hnl : n < 1000000) (w : World) (h : SrcAt w p A n c q 0) (hA : Rd w A n (fun j => .int .u8 (nth B j : Nat))) (hAp : ∀ a, A = some a → a.block ≠ p) :
    Calls Tryd.prog 44 #[.pointer (some ⟨p, 0, none⟩), .int .i64 8] w (fun e w' => e = .returned (.tuple #[.int .i64 (nth B q : Nat), .nilIface]) ∧ SrcAt w' p A n c (q + 1) 0 ∧ Mod (· = p) w w') := by
  subst hn
  have H := readBits B p A c (8 * q) 8 (by omega) (by omega) (by omega) hB hnl w (by rw [show 8 * q / 8 = q by omega, show 8 * q % 8 = 0 by omega]; exact h) hA hAp
  refine H.mono ?_
  rintro e w' ⟨rfl, h1, h2⟩
  refine ⟨?_, ?_, h2⟩
  · have := num_byte B (8 * q) 0 (by omega) (hB _)
    rw [show (8 * q + 0) / 8 = q by omega] at this
    rw [show num B (8 * q) 8 = nth B q by rw [this]; simp [num]]
  · rw [show (8 * q + 8) / 8 = q + 1 by omega, show (8 * q + 8) % 8 = 0 by omega] at h1; exact h1
theorem av8 (p : Nat) (A : Option Addr) (n c q m : Nat) (hm : m + 8 * q = 8 * n) (hn : n < 1000000) (w : World) (h : SrcAt w p A n c q 0) :
    Calls Tryd.prog 30 #[.pointer (some ⟨p, 0, none⟩)] w fun e w' => e = .returned (.int .i64 m) ∧ ∃ k, w' = w.drewN k := available p A n c q 0 m (by omega) hn w h
end Go.Proofs.YthnepajhiialpaaDoor
