/-
  The decoder of QR words that are one of several, walked. No condition beyond the bounds that each theorem states.
-/
import Derived.Test.YthkiajighmhdoaaQBE
import Derived.Test.YthkiajighmhdoaaDCR
import Derived.Laws.BytesArg
import Derived.StillTailTactics
namespace Go.Proofs.Ythkiajighmhdoaa
open Go.RowKit Go.Qz Go.Qz.BS Go.Qz.QA
set_option linter.unusedVariables false

def txt (Sg : List (Nat × List Nat)) : List Nat := Sg.flatMap (·.2)
def byt : List (Nat × List Nat) → List (List Nat)
  | [] => []
  | s :: r => if s.1 = 4 then s.2 :: byt r else byt r
theorem txt_cons (s : Nat × List Nat) (r : List (Nat × List Nat)) : txt (s :: r) = s.2 ++ txt r := rfl
theorem byt4 (s : Nat × List Nat) (r : List (Nat × List Nat)) (h : s.1 = 4) : byt (s :: r) = s.2 :: byt r := by rw [byt, if_pos h]
theorem byt_no (s : Nat × List Nat) (r : List (Nat × List Nat)) (h : s.1 ≠ 4) : byt (s :: r) = byt r := by rw [byt, if_neg h]
def tl16 : List Bool := bo 0 4 ++ bo 0 12
theorem tl16_len : tl16.length = 16 := by simp [tl16, bo_len]
theorem Stay.belowP {w w' : World} {p : Nat} {v v' : Value} {R : List Nat} (h : Stay w w' p v v') (ho : w.ownsRow (p + 1) 5 1 v R.length (bl R)) (hp : p < w.heap.size) : Below p w w' :=
  h.1.below (Nat.le_of_lt hp) (fun k e => by
    rcases e with e | e
    · omega
    · have := (ho.lt k e).1; omega)
/-- What is done ahead of the loop's end. -/
structure Out (w' : World) (A0 : Option Addr) (n c0 : Nat) (Ls : List (List Nat)) (V : List Value) : Prop where
  len : n = Ls.length
  rd : Rd w' A0 n (fun j => V.getD j undef)
  each : ∀ j, j < Ls.length → ∃ A c, V.getD j undef = .slice A (sg Ls j).length c ∧ (sg Ls j).length ≤ c ∧ Rd w' A (sg Ls j).length (fun i => .int .u8 (nth (sg Ls j) i : Nat))
theorem Out.below {w w' : World} {A0 : Option Addr} {n c0 : Nat} {Ls : List (List Nat)} {V : List Value} (h : Out w A0 n c0 Ls V) (hb : Below w.heap.size w w') : Out w' A0 n c0 Ls V :=
  ⟨h.len, h.rd.below hb, fun j hj => by
    obtain ⟨A, c, e, hc, hr⟩ := h.each j hj
    exact ⟨A, c, e, hc, hr.below hb⟩⟩
set_option maxRecDepth 100000 in
/-- 'string(v)', v a row of the call's own. -/
theorem conv_ownQ {w : World} {base n : Nat} {v : Value} {l : List Nat} (h : w.ownsRow base 5 1 v n (bl l)) (hl : ∀ x, x ∈ l → x < 256) :
    ∃ A c, v = .slice A n c ∧ Rd w A l.length (fun j => .int .u8 (nth l j : Nat)) ∧ ∀ W : World, Rd W A l.length (fun j => .int .u8 (nth l j : Nat)) → (convert 30 9 (.slice A n c)).run Try.prog W = .ok (.string (bs l)) W := by
  obtain ⟨A, c, rfl, hcc, _, hrd⟩ := Rd.of_own h
  have hn : n = l.length := by have := h.1; simp [bl] at this; omega
  subst hn
  refine ⟨A, c, rfl, hrd.congr fun j hj => by simp [bl, List.getD_eq_getElem?_getD, hj, nth_eq hj], fun W hW => ?_⟩
  have hnum : strOfNums ((List.range l.length).map fun j => ((nth l j : Nat) : Int)) = bs l := by
    unfold strOfNums bs
    congr 2
    apply List.ext_getElem
    · simp
    · intro i h1 h2
      have h3 : i < l.length := by simpa using h2
      simp [nth_eq h3]
  rcases Nat.eq_zero_or_pos l.length with h0 | h0
  · have : l = [] := List.eq_nil_of_length_eq_zero h0
    subst this
    rcases h.2 with ⟨e, _⟩ | ⟨g, cap, cur, e, _⟩
    · injection e with e _ _
      subst e
      exact run_convert_bytes_nil W 30 5 Try.underlying30 (by kernel_rfl) _ _ 9 (by kernel_rfl)
    · injection e with e _ _
      subst e
      exact run_convert_bytes_arg W 30 5 Try.underlying30 (by kernel_rfl) g 0 _ c [] rfl (fun i hi => absurd hi (by simp)) 9 (by kernel_rfl)
  · obtain ⟨b, off, rfl, _, hc⟩ := hW h0
    have := run_convert_bytes_arg (P := Try.prog) W 30 5 Try.underlying30 (by kernel_rfl) b off l.length c ((List.range l.length).map fun j => ((nth l j : Nat) : Int)) (by simp) (fun i hi => by
      rw [hc i hi]
      simp [List.getD_eq_getElem?_getD, hi, nth_eq hi]) 9 (by kernel_rfl)
    rw [hnum] at this
    exact this
def ResQ (A : Option Addr) (n k : Nat) (text : ByteArray) (A0 : Option Addr) (n0 c0 : Nat) (lv : ByteArray) (sq pr md : Int) (w : World) (e : Ending) (w' : World) : Prop := ∃ p nb, e = .returned (.pointer (some ⟨p, 0, none⟩)) ∧ Hid (DR w' p (.slice A n k) nb text (.slice A0 n0 c0) lv 0 0 .nilIface pr sq md) ∧ Hid (Below w.heap.size w w')
set_option maxRecDepth 100000 in
theorem resQ (A : Option Addr) (n k : Nat) (hn : n < 1000000) (text : ByteArray) (A0 : Option Addr) (n0 c0 : Nat) (lv : ByteArray) (sq pr md : Int) (w : World) :
    Calls Try.prog 65 #[.slice A n k, .string text, .slice A0 n0 c0, .string lv, .int .i64 sq, .int .i64 pr, .int .i64 md] w (ResQ A n k text A0 n0 c0 lv sq pr md w) := by
  go_enter Try.func65, Try.ntmps65
  go_wp2_with fail
  go_ret
  exact ⟨_, _, rfl, Lib.hid ⟨Arr.new _ _ _⟩, Lib.hid ((Below.refl _ _).alloc (Nat.le_refl _) _)⟩
def DecQ (B T : List Nat) (Ls : List (List Nat)) (A : Option Addr) (c : Nat) (l : Nat) (sq pr : Int) (w : World) (e : Ending) (w' : World) : Prop :=
  ∃ (rp n c0 : Nat) (nb : Value) (A0 : Option Addr) (V : List Value), e = .returned (.tuple #[.pointer (some ⟨rp, 0, none⟩), .nilIface]) ∧ Hid (DR w' rp (.slice A B.length c) nb (bs T) (.slice A0 n c0) (lvName l) 0 0 .nilIface pr sq 1) ∧ Hid (Out w' A0 n c0 Ls V) ∧ Hid (Rd w' A B.length (fun j => .int .u8 (nth B j : Nat))) ∧ Hid (Below w.heap.size w w')
set_option maxRecDepth 100000 in
set_option maxHeartbeats 25600000 in
theorem decodeQ (B : List Nat) (S : List Bool) (hB : B = by8 S) (hBn : B.length < 1000000) (segs : List (Nat × List Nat)) (hok : ∀ s ∈ segs, okSeg s) (hsl : segs.length ≤ 2) (sq pr : Nat) (hsq : sq < 256) (hpr : pr < 256) (vn pv l : Nat) (hl : l < 4)
    (hS : S = bo 3 4 ++ (bo sq 8 ++ (bo pr 8 ++ (stm vn segs ++ tl16)))) (A : Option Addr) (c : Nat) (w : World) (hrd : Rd w A B.length (fun j => .int .u8 (nth B j : Nat))) (hA : ∀ a, A = some a → a.block < w.heap.size) (hver : VerAt w pv vn) :
    Calls Try.prog 26 #[.slice A B.length c, .pointer (some ⟨pv, 0, none⟩), .int .i64 l, .map none] w (DecQ B (txt segs) (byt segs) A c l sq pr w) := by
  have HB := Lib.hid hB
  have HBN := Lib.hid hBn
  have HOK := Lib.hid hok
  have HSL := Lib.hid hsl
  have HOK0 := Lib.hid hok
  have HSQ := Lib.hid hsq
  have HPR := Lib.hid hpr
  have HS := Lib.hid hS
  have HA := Lib.hid hA
  have HRD := Lib.hid hrd
  have HVER := Lib.hid hver
  have HLV := Lib.hid hl
  obtain ⟨bn, hbn⟩ : ∃ bn, bn = B.length := ⟨_, rfl⟩
  rw [← hbn]
  have HBL := Lib.hid hbn
  have HBN2 : Hid (bn < 1000000) := Lib.hid (by omega)
  have hneq : ∀ W, (binOp .neq 60 .nilIface .nilIface).run Try.prog W = .ok (.bool false) W := fun W => rfl
  have hmk1 : ∀ W, (Instr.makeSlice 30 (.int .i64 0) (.int .i64 50)).run Try.prog W = .ok (.slice (some ⟨W.heap.size, 0, none⟩) 0 50) (W.alloc (.cells (zeros 50 (.int .u8 0)) 5)) := fun W => run_make0 (P := Try.prog) 30 5 (.int .u8 0) 1 Try.underlying30 Try.infoU8Q rfl (by decide) 50 (by omega) .i64 .i64 50 rfl W
  have hmk3 : ∀ W, (Instr.makeSlice 32 (.int .i64 0) (.int .i64 1)).run Try.prog W = .ok (.slice (some ⟨W.heap.size, 0, none⟩) 0 1) (W.alloc (.cells (zeros 1 (.slice none 0 0)) 30)) := fun W => run_make0 (P := Try.prog) 32 30 (.slice none 0 0) 24 Try.underlying32 Try.infoRowsQ rfl (by decide) 1 (by omega) .i64 .i64 1 rfl W
  have HMK := Lib.hid (And.intro hmk1 hmk3)
  clear hmk1 hmk3 hB hBn hok hsl hsq hpr hS hA hrd hver hl hbn
  go_enter Try.func26, Try.ntmps26
  go_wp2_with fail
  refine (srcNew A bn c w).mono ?_
  rintro e w1 ⟨rfl, hsrc, hb1, hlt⟩
  obtain ⟨p, hp⟩ : ∃ p, p = w.heap.size := ⟨_, rfl⟩
  rw [← hp] at hsrc hlt ⊢
  have HP := Lib.hid hp
  have HFAR : Hid (∀ a, A = some a → a.block < p) := Lib.hid (by rw [hp]; exact HA.out)
  have HR1 := Lib.hid (HRD.out.below hb1)
  have HB1 : Hid (Below p w w1) := Lib.hid (by rw [hp]; exact hb1)
  have HSRC := Lib.hid hsrc
  have HLT := Lib.hid hlt
  clear hsrc hb1 hlt hp HRD HA
  obtain ⟨hmk1, hmk3⟩ := HMK.out
  clear HMK
  go_upto_region 13 with (fail)
  obtain ⟨W1, hW1⟩ : ∃ W1, W1 = w1.alloc (.cells (zeros 50 (.int .u8 0)) 5) := ⟨_, rfl⟩
  have hb1 : Below w1.heap.size w1 W1 := by rw [hW1]; exact (Below.refl _ _).alloc (Nat.le_refl _) _
  have hz1 : W1.heap.size = w1.heap.size + 1 := by rw [hW1]; simp
  have ho1 : W1.ownsRow (p + 1) 5 1 (.slice (some ⟨w1.heap.size, 0, none⟩) 0 50) 0 [] := by rw [hW1]; exact own_make0 w1 5 (.int .u8 0) 50 (p + 1) HLT.out (by unfold maxLen; omega)
  rw [← hW1]
  obtain ⟨W2, hW2⟩ : ∃ W2, W2 = W1.alloc (.cells (zeros 1 (.slice none 0 0)) 30) := ⟨_, rfl⟩
  have hb2 : Below W1.heap.size W1 W2 := by rw [hW2]; exact (Below.refl _ _).alloc (Nat.le_refl _) _
  have ho2 : W2.ownsRow (p + 1) 30 1 (.slice (some ⟨W1.heap.size, 0, none⟩) 0 1) 0 [] := by rw [hW2]; exact own_make0 W1 30 (.slice none 0 0) 1 (p + 1) (by have := HLT.out; omega) (by unfold maxLen; omega)
  rw [← hW2]
  rw [hz1] at ho2
  obtain ⟨v0, hv0⟩ : ∃ v0 : Value, v0 = .slice (some ⟨w1.heap.size, 0, none⟩) 0 50 := ⟨_, rfl⟩
  obtain ⟨b0, hb0⟩ : ∃ b0 : Value, b0 = .slice (some ⟨w1.heap.size + 1, 0, none⟩) 0 1 := ⟨_, rfl⟩
  have hne : ∀ k, b0.ownBlock = some k → v0.ownBlock ≠ some k := fun k h1 h2 => by
    rw [hb0] at h1; rw [hv0] at h2
    simp only [Value.ownBlock, Option.some.injEq] at h1 h2
    omega
  rw [← hv0] at ho1 ⊢
  rw [← hb0] at ho2 ⊢
  have hbb : Below w1.heap.size w1 W2 := hb1.trans (hb2.mono (by omega))
  have HBP : Hid (Below p w W2) := Lib.hid (HB1.out.trans (hbb.mono (Nat.le_of_lt HLT.out)))
  have hR2 : Rd W2 A B.length (fun j => .int .u8 (nth B j : Nat)) := HR1.out.below hbb
  have hs2 : SrcAt W2 p A bn c 0 0 := Arr.below HSRC.out hbb HLT.out
  have HQ0 : Hid (QSt B p A c 0 v0 [] W2) := Lib.hid ⟨by rw [← HBL.out]; exact hs2, hR2, own_below ho1 hb2, HFAR.out⟩
  have HG0 : Hid (Bsg W2 p v0 b0 [] []) := Lib.hid ⟨ho2, hne, fun j hj => absurd hj (by simp)⟩
  clear hv0 hb0 hne ho1 ho2 hbb hR2 hs2 hb1 hb2 hz1 hW1 hW2 hmk1 hmk3 HSRC HR1 HLT HB1
  go_loopg [11, 12, 13, 14, 16, 17, 18, 19, 20, 21] (segs.length + 1) (fun gk x bs sqv prv ev f1 f2 f3 md er wr => ∃ (P : Nat) (R : List Nat) (Sg : List (Nat × List Nat)) (Ls : List (List Nat)) (V : List Value), ev = .pointer none ∧ f1 = .bool false ∧ f2 = .bool false ∧ f3 = .bool false ∧ Hid (R ++ txt Sg = txt segs) ∧ Hid (Ls ++ byt Sg = byt segs) ∧ Hid (∀ s ∈ Sg, okSeg s) ∧ Hid (Sg.length ≤ 2) ∧ Hid (Ls.length + Sg.length ≤ 2) ∧ Hid (R.length + 100 * Sg.length ≤ 200) ∧ Hid (QSt B p A c P x R wr) ∧ Hid (Bsg wr p x bs Ls V) ∧ Hid (Below p w wr) ∧
    ((Hid (gk = Sg.length + 1) ∧ sqv = .int .i64 (-1) ∧ prv = .int .i64 (-1) ∧ Hid (S.drop P = bo 3 4 ++ (bo sq 8 ++ (bo pr 8 ++ (stm vn Sg ++ tl16))))) ∨ (Hid (gk = Sg.length) ∧ sqv = .int .i64 sq ∧ prv = .int .i64 pr ∧ Hid (S.drop P = stm vn Sg ++ tl16))))
  case atStart => exact ⟨0, [], segs, [], [], rfl, rfl, rfl, rfl, Lib.hid rfl, Lib.hid rfl, HOK, HSL, Lib.hid (by have := HSL.out; simp; exact this), Lib.hid (by have := HSL.out; simp; omega), HQ0, HG0, HBP, .inl ⟨Lib.hid rfl, rfl, rfl, Lib.hid (by rw [List.drop_zero]; exact HS.out)⟩⟩
  case round =>
    obtain ⟨P, R, Sg, Ls, V, rfl, rfl, rfl, rfl, HTX, HBY, HOK, HSL, HLL, HRL, HD, HG, HBP, hph⟩ := hrel
    obtain ⟨wi, hwi⟩ : ∃ wi, wi = wr := ⟨_, rfl⟩
    rw [← hwi] at HD HG HBP ⊢
    clear hwi HQ0 HG0
    rcases hph with ⟨HGK, rfl, rfl, HS1⟩ | ⟨HGK, rfl, rfl, HS1⟩
    · obtain ⟨mm, hmm⟩ : ∃ mm, mm = 3 := ⟨_, rfl⟩
      have HM := Lib.hid hmm
      have q0 : ((mm : Int) == 0) = false := by have := HM.out; simp; omega
      have q1 : ((mm : Int) == 1) = false := by have := HM.out; simp; omega
      have q2 : ((mm : Int) == 2) = false := by have := HM.out; simp; omega
      have q3 : ((mm : Int) == 3) = true := by have := HM.out; simp; omega
      have q4 : ((mm : Int) == 4) = false := by have := HM.out; simp; omega
      have q5 : ((mm : Int) == 5) = false := by have := HM.out; simp; omega
      have q7 : ((mm : Int) == 7) = false := by have := HM.out; simp; omega
      have q8 : ((mm : Int) == 8) = false := by have := HM.out; simp; omega
      have q9 : ((mm : Int) == 9) = false := by have := HM.out; simp; omega
      have q13 : ((mm : Int) == 13) = false := by have := HM.out; simp; omega
      have HS2 : S.drop P = bo mm 4 ++ (bo sq 8 ++ (bo pr 8 ++ (stm vn Sg ++ tl16))) := by rw [hmm]; exact HS1.out
      have hm16 : mm < 2 ^ 4 := by rw [hmm]; omega
      have HRT : Hid (8 ≤ (stm vn Sg ++ tl16).length) := Lib.hid (by rw [List.length_append, tl16_len]; omega)
      have HMF := Lib.hid (modeFor mm (by omega))
      obtain ⟨m, hm⟩ : ∃ m, m = 8 * B.length - P := ⟨_, rfl⟩
      have hroom := room HS2 (by (first | exact HRT.out | (rw [List.length_append, List.length_append]; have := HRT.out; omega)))
      rw [bo_len] at hroom
      have hBl : B.length = S.length / 8 := by rw [HB.out, by8_len]
      have HAV := Lib.hid (avF m (by omega) HBN.out HD.out)
      have hm4 : ((m : Int) < 4) = False := by simp; omega
      have HRDW := Lib.hid (fun k => rdF 4 4 rfl S HB.out HBN.out mm hm16 (by omega) (by omega) _ HS2 (by (first | exact HRT.out | (rw [List.length_append, List.length_append]; have := HRT.out; omega))) (HD.out.drewN k))
      clear hm hroom hBl
      have HS3 := Lib.hid (drop_field HS2 (bo_len _ _))
      clear hmm HS2 hm16
      go_wp2_with fail
      refine HAV.out.mono ?_
      rintro e wa ⟨rfl, k1, rfl⟩
      have HD1 := Lib.hid (HD.out.drewN k1)
      have HRD1 := Lib.hid (HRDW.out k1)
      clear HAV HRDW
      go_wp2_with fail
      refine HRD1.out.mono ?_
      rintro e w2 ⟨rfl, HD2, hm2⟩
      have HM2 : Hid (Mod (· = p) wi w2) := Lib.hid (((Mod.refl wi).drewN k1).trans hm2.out)
      clear hm2 HRD1 HD1
      go_wp2_with fail
      refine (HMF.out w2).mono ?_
      rintro e wx ⟨rfl, rfl⟩
      have HR8 := Lib.hid (rdF 8 8 rfl S HB.out HBN.out sq (by have := HSQ.out; omega) (by omega) (by omega) _ HS3.out (by rw [List.length_append, List.length_append, tl16_len]; omega) HD2.out)
      have HS4 := Lib.hid (drop_field HS3.out (bo_len _ _))
      go_wp2_with fail
      refine HR8.out.mono ?_
      rintro e w3 ⟨rfl, HD3, hm3⟩
      have HM3 : Hid (Mod (· = p) wi w3) := Lib.hid (HM2.out.trans hm3.out)
      have HR9 := Lib.hid (rdF 8 8 rfl S HB.out HBN.out pr (by have := HPR.out; omega) (by omega) (by omega) _ HS4.out HRT.out HD3.out)
      have HS5 := Lib.hid (drop_field HS4.out (bo_len _ _))
      clear hm3 HR8 HM2
      go_wp2_with fail
      refine HR9.out.mono ?_
      rintro e w4 ⟨rfl, HD4, hm4⟩
      have HM4 : Hid (Mod (· = p) wi w4) := Lib.hid (HM3.out.trans hm4.out)
      have HG4 : Hid (Bsg w4 p u11 u12 Ls V) := Lib.hid (HG.out.mod HM4.out (fun j hj e => by have := (HG.out.own.lt j hj).1; have e : j = p := e; omega) (fun j h1 _ e => by have e : j = p := e; omega) (fun j _ h => h))
      have HB4 : Hid (Below p w w4) := Lib.hid (HBP.out.trans (HM4.out.below (Nat.le_of_lt HD.out.plt) (fun j e => by have e : j = p := e; omega)))
      clear hm4 HR9 HM3 HM4
      go_wp2_with fail
      go_roundg Sg.length
      case measure => have := HGK.out; omega
      case rel => exact ⟨_, R, Sg, Ls, V, rfl, rfl, rfl, rfl, HTX, HBY, HOK, HSL, HLL, HRL, HD4, HG4, HB4, .inr ⟨Lib.hid rfl, rfl, rfl, HS5⟩⟩
    · rcases Sg with _ | ⟨⟨mo1, T⟩, r⟩
      · obtain ⟨mm, hmm⟩ : ∃ mm, mm = 0 := ⟨_, rfl⟩
        have HM := Lib.hid hmm
        have q0 : ((mm : Int) == 0) = true := by have := HM.out; simp; omega
        have q1 : ((mm : Int) == 1) = false := by have := HM.out; simp; omega
        have q2 : ((mm : Int) == 2) = false := by have := HM.out; simp; omega
        have q3 : ((mm : Int) == 3) = false := by have := HM.out; simp; omega
        have q4 : ((mm : Int) == 4) = false := by have := HM.out; simp; omega
        have q5 : ((mm : Int) == 5) = false := by have := HM.out; simp; omega
        have q7 : ((mm : Int) == 7) = false := by have := HM.out; simp; omega
        have q8 : ((mm : Int) == 8) = false := by have := HM.out; simp; omega
        have q9 : ((mm : Int) == 9) = false := by have := HM.out; simp; omega
        have q13 : ((mm : Int) == 13) = false := by have := HM.out; simp; omega
        have HS2 : S.drop P = bo mm 4 ++ bo 0 12 := by rw [hmm]; exact HS1.out
        have hm16 : mm < 2 ^ 4 := by rw [hmm]; omega
        have HRT : Hid (8 ≤ (bo 0 12).length) := Lib.hid (by rw [bo_len]; omega)
        have HMF := Lib.hid (modeFor mm (by omega))
        obtain ⟨m, hm⟩ : ∃ m, m = 8 * B.length - P := ⟨_, rfl⟩
        have hroom := room HS2 (by (first | exact HRT.out | (rw [List.length_append, List.length_append]; have := HRT.out; omega)))
        rw [bo_len] at hroom
        have hBl : B.length = S.length / 8 := by rw [HB.out, by8_len]
        have HAV := Lib.hid (avF m (by omega) HBN.out HD.out)
        have hm4 : ((m : Int) < 4) = False := by simp; omega
        have HRDW := Lib.hid (fun k => rdF 4 4 rfl S HB.out HBN.out mm hm16 (by omega) (by omega) _ HS2 (by (first | exact HRT.out | (rw [List.length_append, List.length_append]; have := HRT.out; omega))) (HD.out.drewN k))
        clear hm hroom hBl
        clear hmm HS2 hm16
        go_wp2_with fail
        refine HAV.out.mono ?_
        rintro e wa ⟨rfl, k1, rfl⟩
        have HD1 := Lib.hid (HD.out.drewN k1)
        have HRD1 := Lib.hid (HRDW.out k1)
        clear HAV HRDW
        go_wp2_with fail
        refine HRD1.out.mono ?_
        rintro e w2 ⟨rfl, HD2, hm2⟩
        have HM2 : Hid (Mod (· = p) wi w2) := Lib.hid (((Mod.refl wi).drewN k1).trans hm2.out)
        have HG2 : Hid (Bsg w2 p u11 u12 Ls V) := Lib.hid (HG.out.mod HM2.out (fun j hj e => by have := (HG.out.own.lt j hj).1; have e : j = p := e; omega) (fun j h1 _ e => by have e : j = p := e; omega) (fun j _ h => h))
        have HB2 : Hid (Below p w w2) := Lib.hid (HBP.out.trans (HM2.out.below (Nat.le_of_lt HD.out.plt) (fun j e => by have e : j = p := e; omega)))
        have hRL : R = txt segs := by have := HTX.out; rw [show txt [] = [] from rfl, List.append_nil] at this; exact this
        have hLL : Ls = byt segs := by have := HBY.out; rw [show byt [] = [] from rfl, List.append_nil] at this; exact this
        subst hRL
        subst hLL
        have HTB : Hid (∀ x ∈ txt segs, x < 256) := Lib.hid (fun x hx => by
          obtain ⟨s, hs, hx⟩ := List.mem_flatMap.1 hx
          have := ((HOK0.out s hs).2.2 x hx).2.2
          omega)
        clear hm2 HRD1 HD1 HD HG HBP HM2 HTX HBY HS1
        go_wp2_with fail
        refine (HMF.out w2).mono ?_
        rintro e wx ⟨rfl, rfl⟩
        clear HMF
        obtain ⟨A0, c0, rfl, _, _, hrd0⟩ := Rd.of_own HG2.out.own
        have HRD0 := Lib.hid hrd0
        clear hrd0
        have HRDB : Hid (Rd w2 A B.length (fun j => .int .u8 (nth B j : Nat))) := Lib.hid HD2.out.rd
        obtain ⟨A5, c5, hv5, hrd5, hconv⟩ := conv_ownQ HD2.out.own HTB.out
        have hcv := hconv w2.drew hrd5
        obtain ⟨n5, hn5⟩ : ∃ n5, n5 = (txt segs).length := ⟨_, rfl⟩
        rw [← hn5] at hcv hv5
        have HLVT : Hid (Calls Try.prog 66 #[.int .i64 l] w2.drew fun e w' => e = .returned (.string (lvName l)) ∧ w' = w2.drew) := Lib.hid ((levelText l HLV.out _).mono (fun e w' h => ⟨h.1, h.2.symm⟩))
        clear hconv hrd5 hn5
        have HOUT : Hid (Out w2 A0 (byt segs).length c0 (byt segs) V) := Lib.hid ⟨rfl, HRD0.out, fun j hj => by
          obtain ⟨A, c, e, hc, hr, _⟩ := HG2.out.each j hj
          exact ⟨A, c, e, hc, hr⟩⟩
        obtain ⟨n0, hn0⟩ : ∃ n0, n0 = (byt segs).length := ⟨_, rfl⟩
        rw [← hn0] at HOUT ⊢
        have HN0 := Lib.hid hn0
        subst hv5
        clear HRD0 HG2 HD2 hn0
        by_cases h0 : n0 = 0
        · have h0i : ((n0 : Int) == 0) = true := by simp; omega
          have HH0 := Lib.hid h0
          clear h0
          go_wp2_with fail
          go_still_tail 9, (by kernel_rfl)
          repeat still_step
          still_call (HLVT.out)
          repeat still_step
          refine wpStill_nil ?_
          change wpList _ _ _ _ _ w2.drew
          have HRES := Lib.hid (resQ A bn c HBN2.out (bs (txt segs)) none 0 0 (lvName l) sq pr 1 w2.drew)
          have HRB : Hid (Rd w2.drew A B.length (fun j => .int .u8 (nth B j : Nat))) := Lib.hid HRDB.out
          have HBD : Hid (Below p w w2.drew) := Lib.hid HB2.out.drew
          have HOD : Hid (Out w2.drew none 0 0 (byt segs) V) := Lib.hid ⟨by rw [← HN0.out, HH0.out], fun h => absurd h (by omega), fun j hj => absurd hj (by rw [← HN0.out, HH0.out]; omega)⟩
          clear HRDB HB2 HOUT hcv HLVT
          go_wp2_with fail
          refine HRES.out.mono ?_
          rintro e w3 ⟨rp, nb, rfl, HDR, HB3⟩
          have HBF : Hid (Below w.heap.size w w3) := Lib.hid (by rw [← HP.out]; exact HBD.out.trans (HB3.out.mono (by have := HBD.out.size; have := HP.out; omega)))
          have HOF := Lib.hid (HOD.out.below HB3.out)
          have HRF := Lib.hid (HRB.out.below HB3.out)
          clear HRES HRB HBD HOD HB3
          go_wp2_with fail
          go_ret2
          exact ⟨rp, _, _, nb, _, V, rfl, by rw [← HBL.out]; exact HDR, HOF, HRF, HBF⟩
        · have h0i : ((n0 : Int) == 0) = false := by simp; omega
          clear h0
          go_wp2_with fail
          go_still_tail 9, (by kernel_rfl)
          repeat still_step
          still_call (HLVT.out)
          repeat still_step
          refine wpStill_nil ?_
          change wpList _ _ _ _ _ w2.drew
          have HRES := Lib.hid (resQ A bn c HBN2.out (bs (txt segs)) A0 n0 c0 (lvName l) sq pr 1 w2.drew)
          have HRB : Hid (Rd w2.drew A B.length (fun j => .int .u8 (nth B j : Nat))) := Lib.hid HRDB.out
          have HBD : Hid (Below p w w2.drew) := Lib.hid HB2.out.drew
          have HOD : Hid (Out w2.drew A0 n0 c0 (byt segs) V) := Lib.hid ⟨HOUT.out.len, HOUT.out.rd, HOUT.out.each⟩
          clear HRDB HB2 HOUT hcv HLVT
          go_wp2_with fail
          refine HRES.out.mono ?_
          rintro e w3 ⟨rp, nb, rfl, HDR, HB3⟩
          have HBF : Hid (Below w.heap.size w w3) := Lib.hid (by rw [← HP.out]; exact HBD.out.trans (HB3.out.mono (by have := HBD.out.size; have := HP.out; omega)))
          have HOF := Lib.hid (HOD.out.below HB3.out)
          have HRF := Lib.hid (HRB.out.below HB3.out)
          clear HRES HRB HBD HOD HB3
          go_wp2_with fail
          go_ret2
          exact ⟨rp, _, _, nb, _, V, rfl, by rw [← HBL.out]; exact HDR, HOF, HRF, HBF⟩
      · have HO1 := Lib.hid (HOK.out (mo1, T) (by simp))
        obtain ⟨mm, hmm⟩ : ∃ mm, mm = mo1 := ⟨_, rfl⟩
        rw [← hmm] at HO1 HS1 HTX HBY
        have HOr : Hid (∀ s ∈ r, okSeg s) := Lib.hid (fun s hs => HOK.out s (by simp [hs]))
        clear HOK hmm
        obtain ⟨hmo, hT100, hTok⟩ := HO1.out
        dsimp only at hmo hT100 hTok
        have HS2 : S.drop P = bo mm 4 ++ (bo T.length (cnt mm vn) ++ (dat mm T ++ (stm vn r ++ tl16))) := by
          have := HS1.out
          rw [show stm vn ((mm, T) :: r) = bo mm 4 ++ (bo T.length (cnt mm vn) ++ (dat mm T ++ stm vn r)) from rfl] at this
          simpa using this
        have hm16 : mm < 2 ^ 4 := by rcases hmo with h | h | h <;> rw [h] <;> omega
        have HRT : Hid (8 ≤ (stm vn r ++ tl16).length) := Lib.hid (by rw [List.length_append, tl16_len]; omega)
        have HMF := Lib.hid (modeFor mm (by omega))
        obtain ⟨hc8, hc16⟩ := cnt_bd mm vn
        have hTk : T.length < 2 ^ cnt mm vn := by
          have : 2 ^ 8 ≤ 2 ^ cnt mm vn := Nat.pow_le_pow_right (by omega) hc8
          omega
        obtain ⟨kc, hkc⟩ : ∃ kc, kc = cnt mm vn := ⟨_, rfl⟩
        obtain ⟨m, hm⟩ : ∃ m, m = 8 * B.length - P := ⟨_, rfl⟩
        have hroom := room HS2 (by (first | exact HRT.out | (rw [List.length_append, List.length_append]; have := HRT.out; omega)))
        rw [bo_len] at hroom
        have hBl : B.length = S.length / 8 := by rw [HB.out, by8_len]
        have HAV := Lib.hid (avF m (by omega) HBN.out HD.out)
        have hm4 : ((m : Int) < 4) = False := by simp; omega
        have HRDW := Lib.hid (fun k => rdF 4 4 rfl S HB.out HBN.out mm hm16 (by omega) (by omega) _ HS2 (by (first | exact HRT.out | (rw [List.length_append, List.length_append]; have := HRT.out; omega))) (HD.out.drewN k))
        clear hm hroom hBl
        have HS3 := Lib.hid (drop_field HS2 (bo_len _ _))
        have HCN := Lib.hid (fun W hW => modeCnt mm vn pv hmo W hW)
        rw [← hkc] at HCN HS3 hTk hc8 hc16
        have HTK := Lib.hid hTk
        have HC8 := Lib.hid (And.intro hc8 hc16)
        have HTOK := Lib.hid hTok
        have HT100 := Lib.hid hT100
        have HMO := Lib.hid hmo
        clear HS2 hm16 hkc hTk hc8 hc16 hTok hT100 hmo HO1 HS1
        have HRL2 : Hid ((R ++ T).length ≤ 10000) := Lib.hid (by have := HRL.out; have := HT100.out; rw [List.length_append]; simp at this ⊢; omega)
        have HGK2 : Hid (gk = r.length + 1) := Lib.hid (by have := HGK.out; simpa using this)
        have HRL3 : Hid ((R ++ T).length + 100 * r.length ≤ 200) := Lib.hid (by have h1 := HRL.out; have := HT100.out; rw [List.length_append]; simp only [List.length_cons] at h1; omega)
        have HTX2 : Hid ((R ++ T) ++ txt r = txt segs) := Lib.hid (by rw [← HTX.out, txt_cons, List.append_assoc])
        have HSL2 : Hid (r.length ≤ 2) := Lib.hid (by have h1 := HSL.out; simp only [List.length_cons] at h1; omega)
        have HLL2 : Hid (Ls.length + r.length + 1 ≤ 2) := Lib.hid (by have h1 := HLL.out; simp only [List.length_cons] at h1; omega)
        clear HGK HTX HSL HLL HRL
        have H3 : Hid (mm = 1 ∨ mm = 2 ∨ mm = 4) := HMO
        rcases HMO.out with hmm | hmm | hmm
        · have HM := Lib.hid hmm
          clear hmm
          have q0 : ((mm : Int) == 0) = false := by have := HM.out; simp; omega
          have q1 : ((mm : Int) == 1) = true := by have := HM.out; simp; omega
          have q2 : ((mm : Int) == 2) = false := by have := HM.out; simp; omega
          have q3 : ((mm : Int) == 3) = false := by have := HM.out; simp; omega
          have q4 : ((mm : Int) == 4) = false := by have := HM.out; simp; omega
          have q5 : ((mm : Int) == 5) = false := by have := HM.out; simp; omega
          have q7 : ((mm : Int) == 7) = false := by have := HM.out; simp; omega
          have q8 : ((mm : Int) == 8) = false := by have := HM.out; simp; omega
          have q9 : ((mm : Int) == 9) = false := by have := HM.out; simp; omega
          have q13 : ((mm : Int) == 13) = false := by have := HM.out; simp; omega
          go_wp2_with fail
          refine HAV.out.mono ?_
          rintro e wa ⟨rfl, k1, rfl⟩
          have HD1 := Lib.hid (HD.out.drewN k1)
          have HRD1 := Lib.hid (HRDW.out k1)
          clear HAV HRDW
          go_wp2_with fail
          refine HRD1.out.mono ?_
          rintro e w2 ⟨rfl, HD2, hm2⟩
          have HM2 : Hid (Mod (· = p) wi w2) := Lib.hid (((Mod.refl wi).drewN k1).trans hm2.out)
          have HB2 : Hid (Below p w w2) := Lib.hid (HBP.out.trans (HM2.out.below (Nat.le_of_lt HD.out.plt) (fun j e => by have e : j = p := e; omega)))
          have HG2 : Hid (Bsg w2 p u11 u12 Ls V) := Lib.hid (HG.out.mod HM2.out (fun j hj e => by have := (HG.out.own.lt j hj).1; have e : j = p := e; omega) (fun j h1 _ e => by have e : j = p := e; omega) (fun j _ h => h))
          have HV2 : Hid (VerAt w2 pv vn) := Lib.hid (HVER.out.below (by rw [← HP.out]; exact HB2.out))
          clear hm2 HRD1 HD1 HM2
          go_wp2_with fail
          refine (HMF.out w2).mono ?_
          rintro e wx ⟨rfl, rfl⟩
          clear HMF
          go_wp2_with fail
          refine (HCN.out w2 HV2.out).mono ?_
          rintro e w3 ⟨rfl, hb3⟩
          have HD3 : Hid (QSt B p A c _ u11 R w3) := Lib.hid (HD2.out.grow (hb3.mono HD2.out.plt) (own_below HD2.out.own hb3))
          have HG3 : Hid (Bsg w3 p u11 u12 Ls V) := Lib.hid (HG2.out.stay ((Stay.refl w2 p u11).below hb3))
          have HB3 : Hid (Below p w w3) := Lib.hid (HB2.out.trans (hb3.mono (Nat.le_of_lt HD2.out.plt)))
          have HRK := Lib.hid (rdF ((kc : Nat) : Int) kc rfl S HB.out HBN.out T.length HTK.out (by have := HC8.out; omega) (by have := HC8.out; omega) _ HS3.out (by rw [List.length_append]; have := HRT.out; omega) HD3.out)
          have HS4 := Lib.hid (drop_field HS3.out (bo_len _ _))
          clear hb3 HCN
          go_wp2_with fail
          refine HRK.out.mono ?_
          rintro e w4 ⟨rfl, HD4, hm4⟩
          have HB4 : Hid (Below p w w4) := Lib.hid (HB3.out.trans (hm4.out.below (Nat.le_of_lt HD3.out.plt) (fun j e => by have e : j = p := e; omega)))
          have HG4 : Hid (Bsg w4 p u11 u12 Ls V) := Lib.hid (HG3.out.mod hm4.out (fun j hj e => by have := (HG3.out.own.lt j hj).1; have e : j = p := e; omega) (fun j h1 _ e => by have e : j = p := e; omega) (fun j _ h => h))
          have hS4 := HS4.out
          rw [HM.out] at hS4
          have HSEG := Lib.hid (numericSeg B S (stm vn r ++ tl16) HB.out HBN.out HRT.out p A c _ u11 R T (fun y hy => (HTOK.out y hy).1.1 HM.out) HRL2.out hS4 w4 HD4.out)
          clear hm4 HRK hS4
          go_wp2_with fail
          refine HSEG.out.mono ?_
          rintro e w5 ⟨P5, v5, rfl, HD5, HST5, HS5⟩
          have HG5 := Lib.hid (HG4.out.stay HST5.out)
          have HB5 : Hid (Below p w w5) := Lib.hid (HB4.out.trans (HST5.out.belowP HD4.out.own HD4.out.plt))
          have HBY2 : Hid (Ls ++ byt r = byt segs) := Lib.hid (by rw [← HBY.out, byt_no _ _ (by show mm ≠ 4; have := HM.out; omega)])
          clear HSEG HST5 HBY HD HG HBP HD2 HG2 HB2 HV2 HD3 HG3 HB3 HD4 HG4 HB4
          go_wp2_with fail
          go_roundg r.length
          case measure => have := HGK2.out; omega
          case rel => exact ⟨P5, R ++ T, r, Ls, V, rfl, rfl, rfl, rfl, HTX2, HBY2, HOr, HSL2, Lib.hid (by have := HLL2.out; omega), HRL3, HD5, HG5, HB5, .inr ⟨Lib.hid rfl, rfl, rfl, HS5⟩⟩
        · have HM := Lib.hid hmm
          clear hmm
          have q0 : ((mm : Int) == 0) = false := by have := HM.out; simp; omega
          have q1 : ((mm : Int) == 1) = false := by have := HM.out; simp; omega
          have q2 : ((mm : Int) == 2) = true := by have := HM.out; simp; omega
          have q3 : ((mm : Int) == 3) = false := by have := HM.out; simp; omega
          have q4 : ((mm : Int) == 4) = false := by have := HM.out; simp; omega
          have q5 : ((mm : Int) == 5) = false := by have := HM.out; simp; omega
          have q7 : ((mm : Int) == 7) = false := by have := HM.out; simp; omega
          have q8 : ((mm : Int) == 8) = false := by have := HM.out; simp; omega
          have q9 : ((mm : Int) == 9) = false := by have := HM.out; simp; omega
          have q13 : ((mm : Int) == 13) = false := by have := HM.out; simp; omega
          go_wp2_with fail
          refine HAV.out.mono ?_
          rintro e wa ⟨rfl, k1, rfl⟩
          have HD1 := Lib.hid (HD.out.drewN k1)
          have HRD1 := Lib.hid (HRDW.out k1)
          clear HAV HRDW
          go_wp2_with fail
          refine HRD1.out.mono ?_
          rintro e w2 ⟨rfl, HD2, hm2⟩
          have HM2 : Hid (Mod (· = p) wi w2) := Lib.hid (((Mod.refl wi).drewN k1).trans hm2.out)
          have HB2 : Hid (Below p w w2) := Lib.hid (HBP.out.trans (HM2.out.below (Nat.le_of_lt HD.out.plt) (fun j e => by have e : j = p := e; omega)))
          have HG2 : Hid (Bsg w2 p u11 u12 Ls V) := Lib.hid (HG.out.mod HM2.out (fun j hj e => by have := (HG.out.own.lt j hj).1; have e : j = p := e; omega) (fun j h1 _ e => by have e : j = p := e; omega) (fun j _ h => h))
          have HV2 : Hid (VerAt w2 pv vn) := Lib.hid (HVER.out.below (by rw [← HP.out]; exact HB2.out))
          clear hm2 HRD1 HD1 HM2
          go_wp2_with fail
          refine (HMF.out w2).mono ?_
          rintro e wx ⟨rfl, rfl⟩
          clear HMF
          go_wp2_with fail
          refine (HCN.out w2 HV2.out).mono ?_
          rintro e w3 ⟨rfl, hb3⟩
          have HD3 : Hid (QSt B p A c _ u11 R w3) := Lib.hid (HD2.out.grow (hb3.mono HD2.out.plt) (own_below HD2.out.own hb3))
          have HG3 : Hid (Bsg w3 p u11 u12 Ls V) := Lib.hid (HG2.out.stay ((Stay.refl w2 p u11).below hb3))
          have HB3 : Hid (Below p w w3) := Lib.hid (HB2.out.trans (hb3.mono (Nat.le_of_lt HD2.out.plt)))
          have HRK := Lib.hid (rdF ((kc : Nat) : Int) kc rfl S HB.out HBN.out T.length HTK.out (by have := HC8.out; omega) (by have := HC8.out; omega) _ HS3.out (by rw [List.length_append]; have := HRT.out; omega) HD3.out)
          have HS4 := Lib.hid (drop_field HS3.out (bo_len _ _))
          clear hb3 HCN
          go_wp2_with fail
          refine HRK.out.mono ?_
          rintro e w4 ⟨rfl, HD4, hm4⟩
          have HB4 : Hid (Below p w w4) := Lib.hid (HB3.out.trans (hm4.out.below (Nat.le_of_lt HD3.out.plt) (fun j e => by have e : j = p := e; omega)))
          have HG4 : Hid (Bsg w4 p u11 u12 Ls V) := Lib.hid (HG3.out.mod hm4.out (fun j hj e => by have := (HG3.out.own.lt j hj).1; have e : j = p := e; omega) (fun j h1 _ e => by have e : j = p := e; omega) (fun j _ h => h))
          have hS4 := HS4.out
          rw [HM.out] at hS4
          have HSEG := Lib.hid (alphaSeg B S (stm vn r ++ tl16) HB.out HBN.out HRT.out p A c _ u11 R T (fun y hy => ⟨((HTOK.out y hy).1.2.1 HM.out).1, ((HTOK.out y hy).1.2.1 HM.out).2, by have := (HTOK.out y hy).2.2; omega⟩) HRL2.out hS4 w4 HD4.out)
          clear hm4 HRK hS4
          go_wp2_with fail
          refine HSEG.out.mono ?_
          rintro e w5 ⟨P5, v5, rfl, HD5, HST5, HS5⟩
          have HG5 := Lib.hid (HG4.out.stay HST5.out)
          have HB5 : Hid (Below p w w5) := Lib.hid (HB4.out.trans (HST5.out.belowP HD4.out.own HD4.out.plt))
          have HBY2 : Hid (Ls ++ byt r = byt segs) := Lib.hid (by rw [← HBY.out, byt_no _ _ (by show mm ≠ 4; have := HM.out; omega)])
          clear HSEG HST5 HBY HD HG HBP HD2 HG2 HB2 HV2 HD3 HG3 HB3 HD4 HG4 HB4
          go_wp2_with fail
          go_roundg r.length
          case measure => have := HGK2.out; omega
          case rel => exact ⟨P5, R ++ T, r, Ls, V, rfl, rfl, rfl, rfl, HTX2, HBY2, HOr, HSL2, Lib.hid (by have := HLL2.out; omega), HRL3, HD5, HG5, HB5, .inr ⟨Lib.hid rfl, rfl, rfl, HS5⟩⟩
        · have HM := Lib.hid hmm
          clear hmm
          have q0 : ((mm : Int) == 0) = false := by have := HM.out; simp; omega
          have q1 : ((mm : Int) == 1) = false := by have := HM.out; simp; omega
          have q2 : ((mm : Int) == 2) = false := by have := HM.out; simp; omega
          have q3 : ((mm : Int) == 3) = false := by have := HM.out; simp; omega
          have q4 : ((mm : Int) == 4) = true := by have := HM.out; simp; omega
          have q5 : ((mm : Int) == 5) = false := by have := HM.out; simp; omega
          have q7 : ((mm : Int) == 7) = false := by have := HM.out; simp; omega
          have q8 : ((mm : Int) == 8) = false := by have := HM.out; simp; omega
          have q9 : ((mm : Int) == 9) = false := by have := HM.out; simp; omega
          have q13 : ((mm : Int) == 13) = false := by have := HM.out; simp; omega
          go_wp2_with fail
          refine HAV.out.mono ?_
          rintro e wa ⟨rfl, k1, rfl⟩
          have HD1 := Lib.hid (HD.out.drewN k1)
          have HRD1 := Lib.hid (HRDW.out k1)
          clear HAV HRDW
          go_wp2_with fail
          refine HRD1.out.mono ?_
          rintro e w2 ⟨rfl, HD2, hm2⟩
          have HM2 : Hid (Mod (· = p) wi w2) := Lib.hid (((Mod.refl wi).drewN k1).trans hm2.out)
          have HB2 : Hid (Below p w w2) := Lib.hid (HBP.out.trans (HM2.out.below (Nat.le_of_lt HD.out.plt) (fun j e => by have e : j = p := e; omega)))
          have HG2 : Hid (Bsg w2 p u11 u12 Ls V) := Lib.hid (HG.out.mod HM2.out (fun j hj e => by have := (HG.out.own.lt j hj).1; have e : j = p := e; omega) (fun j h1 _ e => by have e : j = p := e; omega) (fun j _ h => h))
          have HV2 : Hid (VerAt w2 pv vn) := Lib.hid (HVER.out.below (by rw [← HP.out]; exact HB2.out))
          clear hm2 HRD1 HD1 HM2
          go_wp2_with fail
          refine (HMF.out w2).mono ?_
          rintro e wx ⟨rfl, rfl⟩
          clear HMF
          go_wp2_with fail
          refine (HCN.out w2 HV2.out).mono ?_
          rintro e w3 ⟨rfl, hb3⟩
          have HD3 : Hid (QSt B p A c _ u11 R w3) := Lib.hid (HD2.out.grow (hb3.mono HD2.out.plt) (own_below HD2.out.own hb3))
          have HG3 : Hid (Bsg w3 p u11 u12 Ls V) := Lib.hid (HG2.out.stay ((Stay.refl w2 p u11).below hb3))
          have HB3 : Hid (Below p w w3) := Lib.hid (HB2.out.trans (hb3.mono (Nat.le_of_lt HD2.out.plt)))
          have HRK := Lib.hid (rdF ((kc : Nat) : Int) kc rfl S HB.out HBN.out T.length HTK.out (by have := HC8.out; omega) (by have := HC8.out; omega) _ HS3.out (by rw [List.length_append]; have := HRT.out; omega) HD3.out)
          have HS4 := Lib.hid (drop_field HS3.out (bo_len _ _))
          clear hb3 HCN
          go_wp2_with fail
          refine HRK.out.mono ?_
          rintro e w4 ⟨rfl, HD4, hm4⟩
          have HB4 : Hid (Below p w w4) := Lib.hid (HB3.out.trans (hm4.out.below (Nat.le_of_lt HD3.out.plt) (fun j e => by have e : j = p := e; omega)))
          have HG4 : Hid (Bsg w4 p u11 u12 Ls V) := Lib.hid (HG3.out.mod hm4.out (fun j hj e => by have := (HG3.out.own.lt j hj).1; have e : j = p := e; omega) (fun j h1 _ e => by have e : j = p := e; omega) (fun j _ h => h))
          have hS4 := HS4.out
          rw [HM.out] at hS4
          have HSEG := Lib.hid (byteSeg B S (stm vn r ++ tl16) HB.out HBN.out HRT.out p A c _ u11 u12 R T Ls V (by have := HLL2.out; omega) (fun y hy => (HTOK.out y hy).1.2.2 HM.out) HRL2.out hS4 w4 HD4.out HG4.out)
          clear hm4 HRK hS4
          go_wp2_with fail
          refine HSEG.out.mono ?_
          rintro e w5 ⟨P5, v5, bv5, V5, rfl, HD5, HG5, HS5, HB5a⟩
          have HB5 : Hid (Below p w w5) := Lib.hid (HB4.out.trans HB5a.out)
          have HBY2 : Hid ((Ls ++ [T]) ++ byt r = byt segs) := Lib.hid (by rw [← HBY.out, byt4 _ _ (by show mm = 4; exact HM.out)]; simp)
          clear HSEG HBY HD HG HBP HD2 HG2 HB2 HV2 HD3 HG3 HB3 HD4 HG4 HB4
          go_wp2_with fail
          go_roundg r.length
          case measure => have := HGK2.out; omega
          case rel => exact ⟨P5, R ++ T, r, Ls ++ [T], V5, rfl, rfl, rfl, rfl, HTX2, HBY2, HOr, HSL2, Lib.hid (by have := HLL2.out; rw [List.length_append]; simp; omega), HRL3, HD5, HG5, HB5, .inr ⟨Lib.hid rfl, rfl, rfl, HS5⟩⟩
end Go.Proofs.Ythkiajighmhdoaa
