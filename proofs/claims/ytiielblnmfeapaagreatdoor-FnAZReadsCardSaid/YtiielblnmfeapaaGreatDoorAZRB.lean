/-
  Decoder.Decode of the Aztec decoder, walked. No condition beyond the bounds that the theorem states.
-/
import Derived.Test.YtiielblnmfeapaaGreatDoorAZRA
namespace Go.Proofs.YtiielblnmfeapaaGreatDoor
open Go.RowKit Go.Qz Go.Qz.AZ Go.Qz.RS
set_option linter.unusedVariables false

def DecodePost (D0 : Nat) (text : ByteArray) (w : World) (e : Ending) (w' : World) : Prop :=
  ∃ (q b n : Nat) (nb : Value) (f : Nat → Int) (level : ByteArray), e = .returned (.tuple #[.pointer (some ⟨q, 0, none⟩), .nilIface]) ∧ Hid (DR w' q (.slice (some ⟨b, 0, none⟩) n n) nb text (.slice none 0 0) level 0 0 .nilIface (-1) (-1) 0) ∧
    Hid (Rd w' (some ⟨b, 0, none⟩) n (fun j => .int .u8 (f j))) ∧ n < 1000000 ∧ Hid (Mod (· = D0) w w')
set_option maxRecDepth 100000 in
set_option maxHeartbeats 6400000 in
theorem decodeAZ (bits U : List Bool) (all : List Nat) (D0 R0 d0 p : Nat) (a1 a2 a3 : Value) (G : World → Prop) (w : World)
    (hG : ∀ W W', Mod (· = D0) W W' → G W → G W')
    (hD0 : Arr w 77 D0 [.pointer none]) (hR0 : Arr w 81 R0 [.pointer (some ⟨d0, 0, none⟩), a1, a2, a3]) (hd : Arr w 108 d0 [.pointer (some ⟨p, 0, none⟩), .slice none 0 0])
    (hDR : R0 ≠ D0) (hDd : d0 ≠ D0) (hg : G w)
    (hX : ∀ W, Arr W 77 D0 [.pointer (some ⟨R0, 0, none⟩)] → Arr W 81 R0 [.pointer (some ⟨d0, 0, none⟩), a1, a2, a3] → G W → Calls Tryz.prog 37 #[.pointer (some ⟨D0, 0, none⟩), .pointer (some ⟨p, 0, none⟩)] W (ExPost bits W))
    (hC : ∀ A W, Arr W 77 D0 [.pointer (some ⟨R0, 0, none⟩)] → Arr W 81 R0 [.pointer (some ⟨d0, 0, none⟩), a1, a2, a3] → Rd W A bits.length (fun j => .bool (nthB bits j)) → Calls Tryz.prog 38 #[.pointer (some ⟨D0, 0, none⟩), .slice A bits.length bits.length] W (CorrPost U W))
    (hE : ∀ A c W, Rd W A U.length (fun j => .bool (nthB U j)) → Calls Tryz.prog 41 #[.pointer (some ⟨D0, 0, none⟩), .slice A U.length c] W (TextPost all W))
    (hU0 : 0 < U.length) (hUl : U.length < 1000000) :
    Calls Tryz.prog 15 #[.pointer (some ⟨D0, 0, none⟩), .pointer (some ⟨R0, 0, none⟩)] w (DecodePost D0 (strB all) w) := by
  have hneq : ∀ W, (binOp .neq 44 .nilIface .nilIface).run Tryz.prog W = .ok (.bool false) W := fun W => rfl
  have c0 := hD0.cell? 0
  have hf := hD0.free 0
  have cr := hR0.cell? 0
  simp only [List.getElem?_cons_zero] at c0 cr
  have hmo := Mod.set1 w D0 0 (.pointer (some ⟨R0, 0, none⟩))
  have HD := Lib.hid (hD0.set_ 0 (.pointer (some ⟨R0, 0, none⟩)))
  have HR := Lib.hid (hR0.mod hmo hDR)
  have Hd := Lib.hid (hd.mod hmo hDd)
  have HG := Lib.hid (hG _ _ hmo hg)
  have HGG := Lib.hid hG
  have HM := Lib.hid hmo
  have HX := Lib.hid hX
  have HC := Lib.hid hC
  have HE := Lib.hid hE
  have HU := Lib.hid (And.intro hU0 hUl)
  have HNE := Lib.hid (And.intro hDR hDd)
  have HDL := Lib.hid hD0.lt
  have cr2 := HR.out.cell? 0
  simp only [List.getElem?_cons_zero] at cr2
  obtain ⟨N, hN⟩ : ∃ N, N = bits.length := ⟨_, rfl⟩
  obtain ⟨T, hT⟩ : ∃ T, T = U.length := ⟨_, rfl⟩
  rw [← hN] at HC
  rw [← hT] at HE HU
  have hTb : T < 1000000 := HU.out.2
  have HN := Lib.hid hN
  have HT := Lib.hid hT
  clear hG hD0 hR0 hd hg hX hC hE hU0 hUl hmo hDR hDd hN hT
  obtain ⟨W1, hW1⟩ : ∃ W1, W1 = w.setCell ⟨D0, 0, none⟩ (.pointer (some ⟨R0, 0, none⟩)) := ⟨_, rfl⟩
  rw [← hW1] at HD HR Hd HG HM cr2
  have HW1 := Lib.hid hW1
  clear hW1
  go_enter Tryz.func15, Tryz.ntmps15
  go_upto_region 2 with (fail)
  rw [← HW1.out]
  go_wp2_with fail
  have HB := Lib.hid (detBits d0 _ _ W1 Hd.out)
  refine HB.out.mono ?_
  rintro e w1 ⟨rfl, rfl⟩
  clear HB cr2 c0 hf cr
  have HX2 := Lib.hid (HX.out W1 HD.out HR.out HG.out)
  go_wp2_with fail
  refine HX2.out.mono ?_
  rintro e w2 ⟨Rw, rfl, hrd, hb⟩
  rw [← HN.out] at hrd ⊢
  have HRD := hrd
  have HB2 := hb
  clear hrd hb HX2 HX
  have HD2 := Lib.hid (HD.out.below HB2.out HD.out.lt)
  have HR2 := Lib.hid (HR.out.below HB2.out HR.out.lt)
  have HC2 := Lib.hid (HC.out _ w2 HD2.out HR2.out HRD.out)
  clear HC
  go_wp2_with fail
  refine HC2.out.mono ?_
  rintro e w3 ⟨q, A, c, rfl, h0, hTc, hrd, hb, lv, h1, hlv⟩
  rw [← HT.out] at h0 hrd hlv
  have HRD3 := Lib.hid hrd
  have HB3 := Lib.hid hb
  have hlv100 : lv < 100 := hlv HU.out.1
  have hlt : q < w3.heap.size := World.block_lt_of_cell? w3 _ h0
  have HQ0 := Lib.hid h0
  have HQ1 := Lib.hid h1
  have HQL := Lib.hid hlt
  have HTB := Lib.hid (toBytes U A T c ((T + 7) / 8) HT.out rfl HU.out.2 w3 HRD3.out)
  have hkb : (T + 7) / 8 < 1000000 := by omega
  obtain ⟨k, hk⟩ : ∃ k, k = (T + 7) / 8 := ⟨_, rfl⟩
  rw [← hk] at HTB hkb
  clear hk hTc hrd hb hlv hlt HC2 h1
  go_wp2_with fail
  refine HTB.out.mono ?_
  rintro e w4 ⟨b, f, rfl, HRB, HB4⟩
  have HQ04 := HB4.out.cell (p := ⟨q, 0, none⟩) HQL.out
  have HQ14 := HB4.out.cell (p := ⟨q, 1, none⟩) HQL.out
  rw [HQ0.out] at HQ04
  rw [HQ1.out] at HQ14
  have HQ14 := Lib.hid HQ14
  have HE4 := Lib.hid (HE.out A c w4 (HRD3.out.below HB4.out))
  have HB34 : Hid (Below w2.heap.size w2 w4) := Lib.hid (HB3.out.trans (HB4.out.mono HB3.out.size))
  clear HTB h0 HE
  go_wp2_with fail
  refine HE4.out.mono ?_
  rintro e w5 ⟨rfl, hb⟩
  have HRB5 := Lib.hid (HRB.out.below hb)
  have hq0 := hb.cell (p := ⟨q, 0, none⟩) (by have := HB4.out.size; have := HQL.out; show q < w4.heap.size; omega)
  have hq1 := hb.cell (p := ⟨q, 1, none⟩) (by have := HB4.out.size; have := HQL.out; show q < w4.heap.size; omega)
  rw [HQ04] at hq0
  rw [HQ14.out] at hq1
  have HB5 : Hid (Below w2.heap.size w2 w5) := Lib.hid (HB34.out.trans (hb.mono HB34.out.size))
  have HIT := Lib.hid (itoa lv hlv100 w5)
  clear HE4 hb HQ04 HRB
  go_wp2_with fail
  refine HIT.out.mono ?_
  rintro e w6 ⟨s, rfl, hs, rfl⟩
  have hs1 : s.size ≤ 2 := hs
  have hs2 : ((9223372036854775807 : Nat) < s.size + 1) = False := by simp; omega
  have HRN := Lib.hid (fun level => resNew (some ⟨b, 0, none⟩) k k hkb (strB all) level w5)
  clear hs HIT
  go_wp2_with fail
  refine (HRN.out _).mono ?_
  rintro e w7 ⟨r, nb, rfl, HDR, HB7, hrl⟩
  have hq7 := HB7.out.cell (p := ⟨q, 0, none⟩) (by have := World.block_lt_of_cell? w5 _ hq0; exact this)
  rw [hq0] at hq7
  have HRB7 := Lib.hid (HRB5.out.below HB7.out)
  have HB75 : Hid (Below w2.heap.size w2 w7) := Lib.hid (HB5.out.trans (HB7.out.mono HB5.out.size))
  have HSN := Lib.hid (setNum r (T : Int) w7 HDR.out)
  have HBK := Lib.hid (show b < w5.heap.size ∨ k = 0 from by
    rcases Nat.eq_zero_or_pos k with h | h
    · exact .inr h
    · obtain ⟨b', o', e', h', _⟩ := HRB5.out h
      injection e' with e'; injection e' with e' _ _
      exact .inl (by omega))
  have HRL := Lib.hid hrl
  clear HRN hq0 hq1 hrl HDR HRB5
  go_wp2_with fail
  refine HSN.out.mono ?_
  rintro e w8 ⟨rfl, HDR8, HM8⟩
  have HM9 : Hid (Mod (· = D0) w w8) := Lib.hid (((HM.out.then (Mod.of_below (S := fun _ => False) HB2.out) (fun i _ h => False.elim h)).then (Mod.of_belowE HB75.out) (fun i hi h => by
      have h9 : w2.heap.size ≤ i := h
      have := HB2.out.size; have := HM.out.size; omega)).then HM8.out (fun i hi h => by
      have h9 : i = r := h
      have := HRL.out; have := HB5.out.size; have := HB2.out.size; have := HM.out.size; omega))
  have HRB9 : Hid (Rd w8 (some ⟨b, 0, none⟩) k (fun j => .int .u8 (f j))) := Lib.hid (HM8.out.rd HRB7.out (fun a ha hk9 h => by
      injection ha with ha
      have h9 : a.block = r := h
      rw [← ha] at h9
      have h9 : b = r := h9
      have := HRL.out
      rcases HBK.out with h | h <;> omega))
  clear HSN HRB7 HM8 HB75 HB5 HB7
  go_wp2_with fail
  go_ret2
  exact ⟨r, b, k, _, f, _, rfl, HDR8, HRB9, hkb, HM9⟩
end Go.Proofs.YtiielblnmfeapaaGreatDoor
