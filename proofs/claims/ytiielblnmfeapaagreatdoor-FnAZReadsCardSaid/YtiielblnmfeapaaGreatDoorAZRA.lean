/-
  What Decoder.Decode needs besides: small numbers as text, bits as bytes, objects; and Decode itself, walked. No condition beyond the bounds that each theorem states.
-/
import Derived.Test.YtiielblnmfeapaaGreatDoorAZEX
import Derived.Test.YtiielblnmfeapaaGreatDoorAZO
import Derived.Test.YtiielblnmfeapaaGreatDoorAZE
import Derived.Test.YtiielblnmfeapaaGreatDoorDCR
namespace Go.Proofs.YtiielblnmfeapaaGreatDoor
open Go.RowKit Go.Qz Go.Qz.AZ Go.Qz.RS
set_option linter.unusedVariables false

/-- A small number's text: at most two signs. -/
def TinyPost (w : World) (e : Ending) (w' : World) : Prop := ∃ s : ByteArray, e = .returned (.string s) ∧ s.size ≤ 2 ∧ w = w'
theorem ext_le (s : ByteArray) (a b : Nat) : (s.extract a b).size ≤ b - a := by
  rw [ByteArray.size_extract]; omega
set_option maxRecDepth 100000 in
theorem smallText (v : Nat) (hv : v < 100) (w : World) : Calls Tryz.prog 117 #[.int .i64 v] w (TinyPost w) := by
  by_cases h : v < 10
  · have h1 : (v : Int) < 10 := by omega
    have h0 : (0 : Int) ≤ (v : Int) := by omega
    go_enter Tryz.func117, Tryz.ntmps117
    go_wp2_with fail
    go_ret
    exact ⟨_, rfl, by refine Nat.le_trans (ext_le _ _ _) ?_; omega, rfl⟩
  · have h1 : ((v : Int) < 10) = False := by simp; omega
    have h0 : (0 : Int) ≤ (v : Int) := by omega
    obtain ⟨v2, hv2⟩ : ∃ x, x = v * 2 := ⟨_, rfl⟩
    obtain ⟨v3, hv3⟩ : ∃ x, x = v2 + 2 := ⟨_, rfl⟩
    have e1 : (v : Int) * 2 = (v2 : Int) := by omega
    have e2 : (v2 : Int) + 2 = (v3 : Int) := by omega
    have hb : v2 ≤ 198 ∧ v3 ≤ 200 := by omega
    have HV := Lib.hid hv3
    clear hv2 hv3 h
    go_enter Tryz.func117, Tryz.ntmps117
    go_wp2_with fail
    go_ret
    exact ⟨_, rfl, by refine Nat.le_trans (ext_le _ _ _) ?_; have := HV.out; omega, rfl⟩
set_option maxRecDepth 100000 in
theorem formatSmall (v : Nat) (hv : v < 100) (w : World) : Calls Tryz.prog 104 #[.int .i64 v, .int .i64 10] w (TinyPost w) := by
  have HS := Lib.hid (smallText v hv w)
  have h0 : (0 : Int) ≤ (v : Int) := by omega
  have h1 : (v : Int) < 100 := by omega
  have d0 : decide ((0 : Int) ≤ (v : Int)) = true := by simp
  have d1 : decide ((v : Int) < 100) = true := by simp; omega
  go_enter Tryz.func104, Tryz.ntmps104
  go_wp2_with fail
  refine HS.out.mono ?_
  rintro e w1 ⟨s, rfl, hs, rfl⟩
  have HSZ := Lib.hid hs
  clear hs
  go_wp2_with fail
  go_ret
  exact ⟨s, rfl, HSZ.out, rfl⟩
set_option maxRecDepth 100000 in
theorem itoaIn (v : Nat) (hv : v < 100) (w : World) : Calls Tryz.prog 73 #[.int .i64 v] w (TinyPost w) := by
  have HS := Lib.hid (formatSmall v hv w)
  go_enter Tryz.func73, Tryz.ntmps73
  go_wp2_with fail
  refine HS.out.mono ?_
  rintro e w1 ⟨s, rfl, hs, rfl⟩
  have HSZ := Lib.hid hs
  clear hs
  go_wp2_with fail
  go_ret
  exact ⟨s, rfl, HSZ.out, rfl⟩
set_option maxRecDepth 100000 in
theorem itoa (v : Nat) (hv : v < 100) (w : World) : Calls Tryz.prog 43 #[.int .i64 v] w (TinyPost w) := by
  have HS := Lib.hid (itoaIn v hv w)
  go_enter Tryz.func43, Tryz.ntmps43
  go_wp2_with fail
  refine HS.out.mono ?_
  rintro e w1 ⟨s, rfl, hs, rfl⟩
  have HSZ := Lib.hid hs
  clear hs
  go_wp2_with fail
  go_ret
  exact ⟨s, rfl, HSZ.out, rfl⟩

theorem Tryz.infoU8RA : (Tryz.prog.info? 5).map (fun i => (i.zero, i.size, i.bytes)) = some (some (.int .u8 0), 1, 1) := by kernel_rfl
def OneByte (w : World) (e : Ending) (w' : World) : Prop := ∃ x : Int, e = .returned (.int .u8 x) ∧ w = w'
set_option maxRecDepth 100000 in
theorem readByte (L : List Bool) (A : Option Addr) (n c i : Nat) (hn : n = L.length) (hi : i < n) (hnl : n < 1000000) (w : World) (h : Rd w A n (fun j => .bool (nthB L j))) :
    Calls Tryz.prog 67 #[.slice A n c, .int .i64 i] w (OneByte w) := by
  obtain ⟨m, hm⟩ : ∃ m, m = n - i := ⟨_, rfl⟩
  have e1 : (n : Int) - (i : Int) = (m : Int) := by omega
  by_cases h8 : 8 ≤ m
  · have h81 : (8 : Int) ≤ (m : Int) := by omega
    have HR := Lib.hid (readCode L A n c i 8 hn (by omega) (by omega) hnl w h)
    obtain ⟨x, hx⟩ : ∃ x, x = vl L i 8 := ⟨_, rfl⟩
    rw [← hx] at HR
    clear hm h8 hx hn h
    go_enter Tryz.func67, Tryz.ntmps67
    go_wp2_with fail
    refine HR.out.mono ?_
    rintro e w1 ⟨rfl, rfl⟩
    go_wp2_with fail
    go_ret
    exact ⟨_, rfl, rfl⟩
  · have h81 : ((8 : Int) ≤ (m : Int)) = False := by simp; omega
    have HR := Lib.hid (readCode L A n c i m hn (by omega) (by omega) hnl w h)
    obtain ⟨x, hx⟩ : ∃ x, x = vl L i m := ⟨_, rfl⟩
    rw [← hx] at HR
    obtain ⟨s, hs⟩ : ∃ s, s = 8 - m := ⟨_, rfl⟩
    have e2 : (8 : Int) - (m : Int) = (s : Int) := by omega
    have hs0 : (0 : Int) ≤ (s : Int) := by omega
    have hs8 : s ≤ 8 := by omega
    clear hm h8 hx hn h hs
    go_enter Tryz.func67, Tryz.ntmps67
    go_wp2_with fail
    refine HR.out.mono ?_
    rintro e w1 ⟨rfl, rfl⟩
    go_wp2_with fail
    go_ret
    exact ⟨_, rfl, rfl⟩
/-- Bytes in new memory. -/
def ByteRowPost (k : Nat) (w : World) (e : Ending) (w' : World) : Prop := ∃ (b : Nat) (f : Nat → Int), e = .returned (.slice (some ⟨b, 0, none⟩) k k) ∧ Hid (Rd w' (some ⟨b, 0, none⟩) k (fun j => .int .u8 (f j))) ∧ Hid (Below w.heap.size w w')
set_option maxRecDepth 100000 in
set_option maxHeartbeats 3200000 in
theorem toBytes (L : List Bool) (A : Option Addr) (n c k : Nat) (hn : n = L.length) (hk : k = (n + 7) / 8) (hnl : n < 1000000) (w : World) (h : Rd w A n (fun j => .bool (nthB L j))) :
    Calls Tryz.prog 40 #[.slice A n c] w (ByteRowPost k w) := by
  have HRB := Lib.hid (fun i hi W hW => readByte L A n c i hn hi hnl W hW)
  have HR := Lib.hid h
  have HK := Lib.hid hk
  obtain ⟨n7, hn7⟩ : ∃ x, x = n + 7 := ⟨_, rfl⟩
  have e1 : (n : Int) + 7 = (n7 : Int) := by omega
  have e2 : (n7 : Int) / 8 = (k : Int) := by omega
  have e3 : (n7 : Int).tdiv 8 = (k : Int) := by rw [Int.tdiv_eq_ediv_of_nonneg (by omega)]; omega
  have hkb : k < 200000 := by omega
  have hmk := fun W => run_make1 (P := Tryz.prog) 22 5 (.int .u8 0) 1 Tryz.underlying22 Tryz.infoU8RA rfl (by decide) k (by omega) .i64 .i64 (k : Int) rfl W
  have hn7b : n7 < 1100000 := by omega
  clear h hk hn hn7
  go_enter Tryz.func40, Tryz.ntmps40
  go_wp2_with fail
  have hA := Arr.new w 5 (List.replicate k (.int .u8 0))
  have hb : Below w.heap.size w (w.alloc (.cells (zeros k (.int .u8 0)) 5)) := (Below.refl _ _).alloc (Nat.le_refl _) _
  obtain ⟨W1, hW1⟩ : ∃ W1, W1 = w.alloc (.cells (zeros k (.int .u8 0)) 5) := ⟨_, rfl⟩
  obtain ⟨E, hE⟩ : ∃ E, E = w.heap.size := ⟨_, rfl⟩
  have hA2 : Arr W1 5 E (rowV (fun _ => .int .u8 0) k) := by rw [rowV_const, hW1, hE]; exact hA
  rw [← hW1, ← hE] at hb ⊢
  have HA := Lib.hid hA2
  have HB := Lib.hid hb
  have HE := Lib.hid hE
  clear hA hA2 hb hW1 hE hmk
  go_loopw [4] (fun i wr => ∃ (q : Nat) (f : Nat → Int), q ≤ k ∧ i = .int .i64 q ∧ Hid (Arr wr 5 E (rowV (fun j => .int .u8 (f j)) k)) ∧ Hid (Below E w wr)) (fun i _ => k - (intOf i).toNat)
  case atStart => exact ⟨0, fun _ => 0, Nat.zero_le _, rfl, HA, HB⟩
  case round =>
    obtain ⟨q, f, hq, rfl, HA2, HB2⟩ := hrel
    clear HA HB
    obtain ⟨wi, hwi⟩ : ∃ wi, wi = wr := ⟨_, rfl⟩
    rw [← hwi] at HA2 HB2 ⊢
    clear hwi
    by_cases hlt : q < k
    · have hq1 : (q : Int) < (k : Int) := by omega
      have hq0 : (0 : Int) ≤ (q : Int) := by omega
      obtain ⟨q8, hq8⟩ : ∃ x, x = 8 * q := ⟨_, rfl⟩
      have e4 : (8 : Int) * (q : Int) = (q8 : Int) := by omega
      have HRB2 := Lib.hid (HRB.out q8 (by have := HK.out; omega) wi (HR.out.below (by rw [← HE.out]; exact HB2.out)))
      have hq8b : q8 < 1000000 := by have := HK.out; omega
      have cc := HA2.out.cell? q
      rw [rowV_get _ _ _ hlt] at cc
      have hf := HA2.out.free q
      have HS : Hid (∀ x, Arr (wi.setCell ⟨E, q, none⟩ (.int .u8 x)) 5 E (rowV (fun j => .int .u8 (if j = q then x else f j)) k) ∧ Below E w (wi.setCell ⟨E, q, none⟩ (.int .u8 x))) := Lib.hid (fun x => ⟨by
        have := HA2.out.set_ q (.int .u8 x)
        rw [rowV_set (g := fun j => .int .u8 (if j = q then x else f j)) (fun j _ => by by_cases e : j = q <;> simp [e])] at this
        exact this, HB2.out.setCell (p := ⟨E, q, none⟩) (Nat.le_refl _) _⟩)
      clear hq8 HA2 HB2
      go_wp2_with fail
      refine HRB2.out.mono ?_
      rintro e w3 ⟨x, rfl, rfl⟩
      go_wp2_with fail
      go_roundw
      case rel => exact ⟨q + 1, _, by omega, by go_num, Lib.hid (HS.out x).1, Lib.hid (HS.out x).2⟩
      case measure => simp [intOf]; omega
    · obtain rfl : q = k := by omega
      have hkk : ((q : Int) < (q : Int)) = False := by simp
      have HF : Hid (Rd wi (some ⟨E, 0, none⟩) q (fun j => .int .u8 (f j))) := Lib.hid (by
        have h1 := HA2.out.rd (fun j => .int .u8 (f j)) (fun j hj => by rw [rowV_len] at hj; rw [rowV_get _ _ _ hj])
        rw [rowV_len] at h1; exact h1)
      go_wp2_with fail
      go_ret
      exact ⟨E, f, rfl, HF, by rw [← HE.out]; exact HB2⟩

/-- The objects. -/
theorem detNew2 (v : Option Addr) (w : World) :
    Calls Tryz.prog 45 #[.pointer v, .slice none 0 0] w fun e w' => ∃ d, e = .returned (.pointer (some ⟨d, 0, none⟩)) ∧ Arr w' 108 d [.pointer v, .slice none 0 0] ∧ Below w.heap.size w w' ∧ w.heap.size ≤ d := by
  go_enter Tryz.func45, Tryz.ntmps45
  go_wp2_with fail
  go_ret
  exact ⟨_, rfl, Arr.new _ _ _, (Below.refl _ _).alloc (Nat.le_refl _) _, Nat.le_refl _⟩
set_option maxRecDepth 100000 in
theorem azDet2 (v : Option Addr) (cm : Bool) (n l : Nat) (w : World) :
    Calls Tryz.prog 16 #[.pointer v, .slice none 0 0, .bool cm, .int .i64 n, .int .i64 l] w fun e w' => ∃ R d, e = .returned (.pointer (some ⟨R, 0, none⟩)) ∧ Arr w' 81 R [.pointer (some ⟨d, 0, none⟩), .bool cm, .int .i64 n, .int .i64 l] ∧ Arr w' 108 d [.pointer v, .slice none 0 0] ∧ Below w.heap.size w w' ∧ w.heap.size ≤ R ∧ w.heap.size ≤ d := by
  go_enter Tryz.func16, Tryz.ntmps16
  go_wp2_with fail
  have H := Lib.hid (detNew2 v w)
  refine H.out.mono ?_
  rintro e w1 ⟨d, rfl, hd, hb, hl⟩
  go_wp2_with fail
  go_ret
  exact ⟨_, d, rfl, Arr.new _ _ _, hd.below ((Below.refl _ _).alloc (Nat.le_refl _) _) hd.lt, hb.alloc hb.size _, hb.size, hl⟩
set_option maxRecDepth 100000 in
theorem detBits (d : Nat) (v : Option Addr) (x : Value) (w : World) (h : Arr w 108 d [.pointer v, x]) :
    Calls Tryz.prog 36 #[.pointer (some ⟨d, 0, none⟩)] w fun e w' => e = .returned (.pointer v) ∧ w = w' := by
  have c := h.cell? 0
  simp only [List.getElem?_cons_zero] at c
  clear h
  go_enter Tryz.func36, Tryz.ntmps36
  go_wp2_with fail
  go_ret
  exact ⟨rfl, rfl⟩
set_option maxRecDepth 100000 in
theorem decNew (w : World) : Calls Tryz.prog 14 #[] w fun e w' => ∃ D, e = .returned (.pointer (some ⟨D, 0, none⟩)) ∧ Arr w' 77 D [.pointer none] ∧ Below w.heap.size w w' ∧ w.heap.size ≤ D := by
  go_enter Tryz.func14, Tryz.ntmps14
  go_wp2_with fail
  go_ret
  exact ⟨_, rfl, Arr.new _ _ _, (Below.refl _ _).alloc (Nat.le_refl _) _, Nat.le_refl _⟩
def ResPost (A : Option Addr) (n k : Nat) (text level : ByteArray) (w : World) (e : Ending) (w' : World) : Prop := ∃ p nb, e = .returned (.pointer (some ⟨p, 0, none⟩)) ∧ Hid (DR w' p (.slice A n k) nb text (.slice none 0 0) level 0 0 .nilIface (-1) (-1) 0) ∧ Hid (Below w.heap.size w w') ∧ w.heap.size ≤ p
set_option maxRecDepth 100000 in
theorem resNewP (A : Option Addr) (n k : Nat) (hn : n < 1000000) (text level : ByteArray) (w : World) :
    Calls Tryz.prog 72 #[.slice A n k, .string text, .slice none 0 0, .string level, .int .i64 (-1), .int .i64 (-1), .int .i64 0] w (ResPost A n k text level w) := by
  go_enter Tryz.func72, Tryz.ntmps72
  go_wp2_with fail
  go_ret
  exact ⟨_, _, rfl, Lib.hid ⟨Arr.new _ _ _⟩, Lib.hid ((Below.refl _ _).alloc (Nat.le_refl _) _), Nat.le_refl _⟩
set_option maxRecDepth 100000 in
theorem resNew (A : Option Addr) (n k : Nat) (hn : n < 1000000) (text level : ByteArray) (w : World) :
    Calls Tryz.prog 42 #[.slice A n k, .string text, .slice none 0 0, .string level] w (ResPost A n k text level w) := by
  have H := Lib.hid (resNewP A n k hn text level w)
  go_enter Tryz.func42, Tryz.ntmps42
  go_wp2_with fail
  refine H.out.mono ?_
  rintro e w1 ⟨p, nb, rfl, h1, h2, h3⟩
  go_wp2_with fail
  go_ret
  exact ⟨p, nb, rfl, h1, h2, h3⟩
set_option maxRecDepth 100000 in
theorem setNum {raw nb segs oth : Value} {text level : ByteArray} {err era par seq mod : Int} (p : Nat) (v : Int) (w : World) (h : DR w p raw nb text segs level err era oth par seq mod) :
    Calls Tryz.prog 44 #[.pointer (some ⟨p, 0, none⟩), .int .i64 v] w fun e w' => e = .returned (.tuple #[]) ∧ Hid (DR w' p raw (.int .i64 v) text segs level err era oth par seq mod) ∧ Hid (Mod (· = p) w w') := by
  have c := h.ar.cell? 1
  have hf := h.ar.free 1
  simp only [List.getElem?_cons_zero, List.getElem?_cons_succ] at c
  have HN : Hid (DR (w.setCell ⟨p, 1, none⟩ (.int .i64 v)) p raw (.int .i64 v) text segs level err era oth par seq mod) := Lib.hid ⟨h.ar.set_ 1 (.int .i64 v)⟩
  clear h
  go_enter Tryz.func44, Tryz.ntmps44
  go_wp2_with fail
  go_end0
  exact ⟨rfl, HN, Lib.hid (Mod.set1 _ _ _ _)⟩
end Go.Proofs.YtiielblnmfeapaaGreatDoor
