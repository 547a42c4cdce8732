/-
  BitMatrix: Flip, Unset, FlipAll, Clear, walked. No condition beyond the bounds that each theorem states.
-/
import Derived.Test.YtcfcbcjaiplllaaBM
namespace Go.Proofs.Ytcfcbcjaiplllaa
open Go.RowKit Go.Qz
set_option linter.unusedVariables false

set_option maxRecDepth 100000 in
set_option maxHeartbeats 800000 in
theorem bm_flip (I J : Int) (i j : Nat) (hI : I = i) (hJ : J = j) (p g W H : Nat) (ws : List Nat) (w : World) (h : BM w p g ws W H) (hi : i < W) (hj : j < H) (hW : W < 100000) (hH : H < 100000) :
    Calls Try.prog 31 #[.pointer (some ⟨p, 0, none⟩), .int .i64 I, .int .i64 J] w fun e w' => e = .returned (.tuple #[]) ∧ w' = w.setCell ⟨g, j * ((W + 31) / 32) + i / 32, none⟩ (.int .u32 ((nth ws (j * ((W + 31) / 32) + i / 32) ^^^ 2 ^ (i % 32) : Nat) : Int)) := by
  have hat := at_lt hi hj
  have hlen := h.len
  have hrow := h.rowSize
  obtain ⟨R, hR⟩ : ∃ R, R = (W + 31) / 32 := ⟨_, rfl⟩
  have hR2 : R < 100000 := by omega
  have hjR : j * R < 10000000000 := Nat.lt_of_le_of_lt (Nat.mul_le_mul (show j ≤ 99999 by omega) (show R ≤ 99999 by omega)) (by decide)
  rw [← hR] at hat hlen hrow ⊢
  obtain ⟨jr, hjr⟩ : ∃ jr, jr = j * R := ⟨_, rfl⟩
  rw [← hjr] at hat hjR ⊢
  obtain ⟨q, hq⟩ : ∃ q, q = jr + i / 32 := ⟨_, rfl⟩
  obtain ⟨r, hr⟩ : ∃ r, r = i % 32 := ⟨_, rfl⟩
  rw [← hq] at hat ⊢
  rw [← hr]
  have e0 : J * (R : Int) = (jr : Int) := by rw [hJ, hjr]; simp
  have e1 : (jr : Int) + I / 32 = (q : Int) := by omega
  have e2 : I % 32 = (r : Int) := by omega
  have hr32 : r < 32 := by omega
  have hi0 : 0 ≤ I := by omega
  have hi1 : I < 1000000 := by omega
  have hq0 : (0 : Int) ≤ (q : Int) := by omega
  have hql : q < ws.length := by omega
  have hq1 : (q : Int) < (ws.length : Int) := by omega
  have hqb : q < 100000000000 := by omega
  have hj0 : (0 : Int) ≤ (jr : Int) := by omega
  have hj1 : (jr : Int) < 10000000000 := by omega
  have hwr : IntKind.i64.wrap (jr : Int) = (jr : Int) := by rw [IntKind.wrap_i64]; omega
  have hw := h.word hql
  have hx := h.lt _ (nth_mem hql)
  have e3 := u32_pow r hr32
  have hp2 : 2 ^ r < 4294967296 := by
    have h1 : 2 ^ r ≤ 2 ^ 31 := Nat.pow_le_pow_right (by omega) (by omega)
    omega
  have e4 := u32_xor _ _ hx hp2
  have hbits := h.bits
  have hfree := h.free q
  have HL := Lib.hid hlen
  clear hq hr hI hJ hjr hR hat hlen h hjR
  generalize 2 ^ r = P at *
  go_enter Try.func31, Try.ntmps31
  go_wp2_with fail
  go_end0
  exact ⟨rfl, rfl⟩

set_option maxRecDepth 100000 in
set_option maxHeartbeats 800000 in
theorem bm_unset (I J : Int) (i j : Nat) (hI : I = i) (hJ : J = j) (p g W H : Nat) (ws : List Nat) (w : World) (h : BM w p g ws W H) (hi : i < W) (hj : j < H) (hW : W < 100000) (hH : H < 100000) :
    Calls Try.prog 30 #[.pointer (some ⟨p, 0, none⟩), .int .i64 I, .int .i64 J] w fun e w' => e = .returned (.tuple #[]) ∧ w' = w.setCell ⟨g, j * ((W + 31) / 32) + i / 32, none⟩ (.int .u32 ((nth ws (j * ((W + 31) / 32) + i / 32) &&& (4294967295 ^^^ 2 ^ (i % 32)) : Nat) : Int)) := by
  have hat := at_lt hi hj
  have hlen := h.len
  have hrow := h.rowSize
  obtain ⟨R, hR⟩ : ∃ R, R = (W + 31) / 32 := ⟨_, rfl⟩
  have hR2 : R < 100000 := by omega
  have hjR : j * R < 10000000000 := Nat.lt_of_le_of_lt (Nat.mul_le_mul (show j ≤ 99999 by omega) (show R ≤ 99999 by omega)) (by decide)
  rw [← hR] at hat hlen hrow ⊢
  obtain ⟨jr, hjr⟩ : ∃ jr, jr = j * R := ⟨_, rfl⟩
  rw [← hjr] at hat hjR ⊢
  obtain ⟨q, hq⟩ : ∃ q, q = jr + i / 32 := ⟨_, rfl⟩
  obtain ⟨r, hr⟩ : ∃ r, r = i % 32 := ⟨_, rfl⟩
  rw [← hq] at hat ⊢
  rw [← hr]
  have e0 : J * (R : Int) = (jr : Int) := by rw [hJ, hjr]; simp
  have e1 : (jr : Int) + I / 32 = (q : Int) := by omega
  have e2 : I % 32 = (r : Int) := by omega
  have hr32 : r < 32 := by omega
  have hi0 : 0 ≤ I := by omega
  have hi1 : I < 1000000 := by omega
  have hq0 : (0 : Int) ≤ (q : Int) := by omega
  have hql : q < ws.length := by omega
  have hq1 : (q : Int) < (ws.length : Int) := by omega
  have hqb : q < 100000000000 := by omega
  have hj0 : (0 : Int) ≤ (jr : Int) := by omega
  have hj1 : (jr : Int) < 10000000000 := by omega
  have hwr : IntKind.i64.wrap (jr : Int) = (jr : Int) := by rw [IntKind.wrap_i64]; omega
  have hw := h.word hql
  have hx := h.lt _ (nth_mem hql)
  have e3 := u32_pow r hr32
  have hp2 : 2 ^ r < 4294967296 := by
    have h1 : 2 ^ r ≤ 2 ^ 31 := Nat.pow_le_pow_right (by omega) (by omega)
    omega
  have e5 := u32_xor 4294967295 (2 ^ r) (by decide) hp2
  have hC2 : 4294967295 ^^^ 2 ^ r < 2 ^ 32 := Nat.xor_lt_two_pow (by decide) (by omega)
  obtain ⟨C, hC⟩ : ∃ C, C = 4294967295 ^^^ 2 ^ r := ⟨_, rfl⟩
  rw [← hC] at e5 hC2 ⊢
  have hC3 : C < 4294967296 := by omega
  have e4 := u32_and (nth ws q) C hx hC3
  clear hC2
  have e6 : ((4294967295 : Nat) : Int) = (if IntKind.u32.signed = true then -1 else IntKind.u32.max) := by decide
  rw [e6] at e5
  clear hC e6
  have hbits := h.bits
  have hfree := h.free q
  have HL := Lib.hid hlen
  clear hq hr hI hJ hjr hR hat hlen h hjR
  generalize 2 ^ r = P at *
  go_enter Try.func30, Try.ntmps30
  go_wp2_with fail
  go_end0
  exact ⟨rfl, rfl⟩


/-- Each word w of the list is made g w, up to one. -/
def mapTo (g : Nat → Nat) (ws : List Nat) (k : Nat) : List Nat := (List.range ws.length).map fun j => if j < k then g (nth ws j) else nth ws j
theorem mapTo_len (g : Nat → Nat) (ws : List Nat) (k : Nat) : (mapTo g ws k).length = ws.length := by simp [mapTo]
theorem mapTo_at (g : Nat → Nat) (ws : List Nat) (k j : Nat) (hj : j < ws.length) : nth (mapTo g ws k) j = if j < k then g (nth ws j) else nth ws j := by
  conv => lhs; unfold nth mapTo
  simp [List.getD_eq_getElem?_getD, hj]
theorem mapTo_set (g : Nat → Nat) (ws : List Nat) (k : Nat) : (mapTo g ws k).set k (g (nth ws k)) = mapTo g ws (k + 1) := by
  apply List.ext_getElem (by simp [mapTo])
  intro j h1 h2
  simp only [mapTo, List.getElem_set, List.getElem_map, List.getElem_range]
  by_cases e : k = j
  · subst e; rw [if_pos rfl, if_pos (by omega)]
  · rw [if_neg e]
    by_cases h : j < k
    · rw [if_pos h, if_pos (by omega)]
    · rw [if_neg h, if_neg (by omega)]
theorem mapTo_zero (g : Nat → Nat) (ws : List Nat) : mapTo g ws 0 = ws := by
  apply List.ext_getElem (by simp [mapTo])
  intro j h1 h2
  simp [mapTo, nth, h2]
theorem BM.mapTo {w : World} {p g W H k : Nat} {ws : List Nat} {G : Nat → Nat} (hG : ∀ x, x < 4294967296 → G x < 4294967296) (h : BM w p g (mapTo G ws k) W H) (hk : k < ws.length) :
    BM (w.setCell ⟨g, k, none⟩ (.int .u32 (G (nth ws k) : Nat))) p g (Proofs.Ytcfcbcjaiplllaa.mapTo G ws (k + 1)) W H := by
  have hl : k < (Proofs.Ytcfcbcjaiplllaa.mapTo G ws k).length := by rw [mapTo_len]; exact hk
  have hx := h.lt _ (nth_mem hl)
  rw [mapTo_at _ _ _ _ hk, if_neg (by omega)] at hx
  have := h.set_ k (G (nth ws k)) (hG _ hx)
  rw [mapTo_set] at this
  exact this
theorem BM.mapWord {w : World} {p g W H k : Nat} {ws : List Nat} {G : Nat → Nat} (h : BM w p g (Proofs.Ytcfcbcjaiplllaa.mapTo G ws k) W H) (hk : k < ws.length) :
    w.cell? ⟨g, k, none⟩ = some (.int .u32 (nth ws k : Nat)) ∧ nth ws k < 4294967296 := by
  have hl : k < (Proofs.Ytcfcbcjaiplllaa.mapTo G ws k).length := by rw [mapTo_len]; exact hk
  have e : nth (Proofs.Ytcfcbcjaiplllaa.mapTo G ws k) k = nth ws k := by rw [mapTo_at _ _ _ _ hk, if_neg (by omega)]
  have h1 := h.word hl
  have h2 := h.lt _ (nth_mem hl)
  rw [e] at h1 h2
  exact ⟨h1, h2⟩

set_option maxRecDepth 100000 in
set_option maxHeartbeats 800000 in
theorem bm_clear (p g W H : Nat) (ws : List Nat) (w : World) (h : BM w p g ws W H) (hl : ws.length < 1000000) :
    Calls Try.prog 34 #[.pointer (some ⟨p, 0, none⟩)] w fun e w' => e = .returned (.tuple #[]) ∧ Hid (BM w' p g (mapTo (fun _ => 0) ws ws.length) W H) ∧ Hid (Mod (fun b => b = g) w w') := by
  have hbits := h.bits
  have HH := Lib.hid h
  have HL := Lib.hid hl
  clear h
  go_enter Try.func34, Try.ntmps34
  go_wp2_with fail
  obtain ⟨n, hn⟩ : ∃ n, n = ws.length := ⟨_, rfl⟩
  rw [← hn] at hl hbits ⊢
  have HN := Lib.hid hn
  clear hn hbits
  go_loopw [3] (fun i wr => ∃ k : Nat, k ≤ n ∧ i = .int .i64 k ∧ Hid (BM wr p g (mapTo (fun _ => 0) ws k) W H) ∧ Hid (Mod (fun b => b = g) w wr)) (fun i _ => n - (intOf i).toNat)
  case atStart => exact ⟨0, by omega, rfl, Lib.hid (by rw [mapTo_zero]; exact HH.out), Lib.hid (Mod.refl _)⟩
  case round =>
    obtain ⟨k, hk, rfl, HB, HM⟩ := hrel
    by_cases hlt : k < n
    · have hkl : k < ws.length := by rw [← HN.out]; exact hlt
      have hbits := HB.out.bits
      rw [mapTo_len, ← HN.out] at hbits
      have hfree := HB.out.free k
      obtain ⟨hw, hx⟩ := BM.mapWord HB.out hkl
      have HB2 := Lib.hid (BM.mapTo (G := fun _ => 0) (fun _ _ => by decide) HB.out hkl)
      have HM2 := Lib.hid (HM.out.trans ((Mod.set1 wr g k (.int .u32 ((0 : Nat) : Int)))))
      have hk0 : (0 : Int) ≤ (k : Int) := by omega
      have hk1 : (k : Int) < (n : Int) := by omega
      clear HB hkl
      go_wp2_with fail
      go_roundw
      case rel => exact ⟨k + 1, by omega, by go_num, HB2, HM2⟩
      case measure => simp [intOf]; omega
    · obtain rfl : k = n := by omega
      go_wp2_with fail
      go_end0
      exact ⟨rfl, by rw [← HN.out]; exact HB, HM⟩

set_option maxRecDepth 100000 in
set_option maxHeartbeats 800000 in
theorem bm_flipAll (p g W H : Nat) (ws : List Nat) (w : World) (h : BM w p g ws W H) (hl : ws.length < 1000000) :
    Calls Try.prog 33 #[.pointer (some ⟨p, 0, none⟩)] w fun e w' => e = .returned (.tuple #[]) ∧ Hid (BM w' p g (mapTo (fun x => 4294967295 ^^^ x) ws ws.length) W H) ∧ Hid (Mod (fun b => b = g) w w') := by
  have hbits := h.bits
  have HH := Lib.hid h
  have HL := Lib.hid hl
  clear h
  go_enter Try.func33, Try.ntmps33
  go_wp2_with fail
  obtain ⟨n, hn⟩ : ∃ n, n = ws.length := ⟨_, rfl⟩
  rw [← hn] at hl hbits ⊢
  have HN := Lib.hid hn
  clear hn hbits
  go_loopw [3] (fun i wr => ∃ k : Nat, k ≤ n ∧ i = .int .i64 k ∧ Hid (BM wr p g (mapTo (fun x => 4294967295 ^^^ x) ws k) W H) ∧ Hid (Mod (fun b => b = g) w wr)) (fun i _ => n - (intOf i).toNat)
  case atStart => exact ⟨0, by omega, rfl, Lib.hid (by rw [mapTo_zero]; exact HH.out), Lib.hid (Mod.refl _)⟩
  case round =>
    obtain ⟨k, hk, rfl, HB, HM⟩ := hrel
    by_cases hlt : k < n
    · have hkl : k < ws.length := by rw [← HN.out]; exact hlt
      have hbits := HB.out.bits
      rw [mapTo_len, ← HN.out] at hbits
      have hfree := HB.out.free k
      obtain ⟨hw, hx⟩ := BM.mapWord HB.out hkl
      have HB2 := Lib.hid (BM.mapTo (G := fun x => 4294967295 ^^^ x) (fun x hx => by have := Nat.xor_lt_two_pow (n := 32) (show 4294967295 < 2 ^ 32 by decide) (show x < 2 ^ 32 from hx); omega) HB.out hkl)
      have e5 := u32_xor 4294967295 (nth ws k) (by decide) hx
      have e6 : ((4294967295 : Nat) : Int) = (if IntKind.u32.signed = true then -1 else IntKind.u32.max) := by decide
      rw [e6] at e5
      obtain ⟨y, hy⟩ : ∃ y, y = 4294967295 ^^^ nth ws k := ⟨_, rfl⟩
      rw [← hy] at e5 HB2
      have HM2 := Lib.hid (HM.out.trans ((Mod.set1 wr g k (.int .u32 (y : Int)))))
      have hk0 : (0 : Int) ≤ (k : Int) := by omega
      have hk1 : (k : Int) < (n : Int) := by omega
      clear HB hkl hy e6
      go_wp2_with fail
      go_region
      go_wp2_with fail
      go_roundw
      case rel => exact ⟨k + 1, by omega, by go_num, Lib.hid (HB2.out.keep rfl rfl), Lib.hid (HM2.out.trans ((Mod.refl _).drew))⟩
      case measure => simp [intOf]; omega
    · obtain rfl : k = n := by omega
      go_wp2_with fail
      go_end0
      exact ⟨rfl, by rw [← HN.out]; exact HB, HM⟩
end Go.Proofs.Ytcfcbcjaiplllaa
