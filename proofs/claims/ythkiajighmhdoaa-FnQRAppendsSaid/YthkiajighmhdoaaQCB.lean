/-
  impl.QRParse over words of a symbol that is one of several, walked. No condition beyond the bounds that each theorem states.
-/
import Derived.Test.YthkiajighmhdoaaQCA
namespace Go.Proofs.Ythkiajighmhdoaa
open Go.RowKit Go.Qz Go.Qz.BS Go.Qz.QA
set_option linter.unusedVariables false

/-- What is said, at the end. -/
def ParseQ (text level : ByteArray) (err par seq mod : Int) (Ls : List (List Nat)) (w : World) (e : Ending) (w' : World) : Prop :=
  ∃ (r : Value) (A0 : Option Addr) (n c0 : Nat) (V : List Value), e = .returned (.tuple #[.agg #[.string text, r, .slice A0 n c0, .string level, .int .i64 err, .int .i64 seq, .int .i64 par, .int .i64 mod], .bool true]) ∧ (r.oneCell' = true ∧ ∃ Ar nr cr, r = .slice Ar nr cr) ∧ Hid (Out w' A0 n c0 Ls V) ∧ Hid (Below w.heap.size w w')
theorem byt_le : ∀ (S : List (Nat × List Nat)), (∀ s ∈ S, okSeg s) → ∀ j, (sg (byt S) j).length ≤ 100
  | [], _, j => by unfold sg byt; simp
  | s :: r, h, j => by
    have ih := byt_le r (fun x hx => h x (List.mem_cons_of_mem _ hx))
    have hs := (h s (by simp)).2.1
    by_cases h4 : s.1 = 4
    · rw [byt4 _ _ h4]
      cases j with
      | zero => exact hs
      | succ j => exact ih j
    · rw [byt_no _ _ h4]; exact ih j
theorem byt_len : ∀ (S : List (Nat × List Nat)), (byt S).length ≤ S.length
  | [] => Nat.le_refl _
  | s :: r => by
    have ih := byt_len r
    by_cases h4 : s.1 = 4
    · rw [byt4 _ _ h4]; simp; exact ih
    · rw [byt_no _ _ h4]; simp; omega
set_option maxRecDepth 100000 in
set_option maxHeartbeats 12800000 in
theorem parseQ (B : List Nat) (S : List Bool) (hB : B = by8 S) (hBn : B.length < 1000000) (segs : List (Nat × List Nat)) (hok : ∀ s ∈ segs, okSeg s) (hsl : segs.length ≤ 2) (sq pr : Nat) (hsq : sq < 256) (hpr : pr < 256) (vn l : Nat) (hv1 : 1 ≤ vn) (hv2 : vn ≤ 40) (hl : l < 4)
    (hS : S = bo 3 4 ++ (bo sq 8 ++ (bo pr 8 ++ (stm vn segs ++ tl16)))) (A : Option Addr) (c : Nat) (w : World) (hrd : Rd w A B.length (fun j => .int .u8 (nth B j : Nat))) :
    Calls Try.prog 11 #[.slice A B.length c, .int .i64 vn, .int .i64 l] w (ParseQ (bs (txt segs)) (lvName l) 0 pr sq 1 (byt segs) w) := by
  have HBB := Lib.hid hB
  have HBN := Lib.hid hBn
  have HOK := Lib.hid hok
  have HSL := Lib.hid hsl
  have HS := Lib.hid hS
  have HX := Lib.hid (And.intro hsq (And.intro hpr hl))
  have HV := Lib.hid (And.intro hv1 hv2)
  obtain ⟨bn, hbn⟩ : ∃ bn, bn = B.length := ⟨_, rfl⟩
  rw [← hbn] at hrd ⊢
  have HBL := Lib.hid hbn
  have hbn2 : bn < 1000000 := by omega
  have hneq : ∀ W, (binOp .neq 60 .nilIface .nilIface).run Try.prog W = .ok (.bool false) W := fun W => rfl
  have hb0 : Below w.heap.size w (w.alloc (.cells zD.toArray 34)) := (Below.refl _ _).alloc (Nat.le_refl _) _
  have hZ := Arr.new w 34 zD
  obtain ⟨W1, hW1⟩ : ∃ W1, W1 = w.alloc (.cells zD.toArray 34) := ⟨_, rfl⟩
  rw [← hW1] at hb0 hZ
  unfold zD at hW1
  obtain ⟨E, hE⟩ : ∃ E, E = w.heap.size := ⟨_, rfl⟩
  rw [← hE] at hZ
  have HR := Lib.hid (hrd.below hb0)
  have HB0 := Lib.hid hb0
  have HZ := Lib.hid hZ
  have HE := Lib.hid hE
  have HGV := Lib.hid (getVer vn hv1 hv2 W1)
  clear hB hBn hok hsl hsq hpr hv1 hv2 hl hS hrd hbn hb0 hZ
  go_enter Try.func11, Try.ntmps11
  go_wp2_with fail
  rw [← hW1, ← hE]
  clear hW1 hE
  refine HGV.out.mono ?_
  rintro e w2 ⟨pv, rfl, hver, hb2⟩
  have HZ2 := Lib.hid (HZ.out.below hb2 HZ.out.lt)
  have HR2 := Lib.hid (HR.out.below hb2)
  have HB2 : Hid (Below w.heap.size w w2) := Lib.hid (HB0.out.trans (hb2.mono HB0.out.size))
  have HVE := Lib.hid hver
  clear hb2 hver HGV HZ HR HB0
  go_wp2_with (at_builtin; refine wpList_copyTo _ _ 30 w2.heap.size 5 (.int .u8 0) 1 _ 0 [] _ _ _ _ rfl rfl rfl rfl Try.underlying30 Try.infoU8Q rfl (fun j _ => rfl) (by decide) (World.ownsRow_nil _ _ _ _) HR2.out (by omega) (Nat.le_refl _) ?_)
  intro v3 w3 hown hg hb3
  obtain ⟨A3, c3, hv3, _, _, hr3⟩ := (show ∃ A c, v3 = .slice A bn c ∧ bn ≤ c ∧ c ≤ maxLen ∧ Rd w3 A bn (fun j => ([] ++ (List.range bn).map (fun j => Value.int .u8 (nth B j : Nat))).getD j undef) from by
    have h := Rd.of_own hown
    first | exact h | (rw [Nat.zero_add] at h; exact h))
  have HR3 : Hid (Rd w3 A3 B.length (fun j => .int .u8 (nth B j : Nat))) := Lib.hid (by
    rw [← HBL.out]
    exact hr3.congr (fun j hj => by simp [List.getD_eq_getElem?_getD, hj]))
  have HA3 : Hid (∀ a, A3 = some a → a.block < w3.heap.size) := Lib.hid (fun a ha => (hown.lt a.block (by rw [hv3, ha]; rfl)).2)
  subst hv3
  have HZ3 := Lib.hid (HZ2.out.below hb3 HZ2.out.lt)
  have HB3 : Hid (Below w.heap.size w w3) := Lib.hid (HB2.out.trans (hb3.mono HB2.out.size))
  have hdec := decodeQ B S HBB.out HBN.out segs HOK.out HSL.out sq pr HX.out.1 HX.out.2.1 vn pv l HX.out.2.2 HS.out A3 c3 w3 HR3.out HA3.out (HVE.out.below hb3)
  rw [← HBL.out] at hdec
  have HDEC := Lib.hid hdec
  clear hown hg hb3 hr3 hdec HZ2 HR2 HB2 HVE
  go_wp2_with fail
  refine HDEC.out.mono ?_
  rintro e w4 ⟨rp, n4, c4, nb, A4, V4, rfl, HDR, HOUT, HRB, HB4⟩
  have HZ4 := Lib.hid (HZ3.out.below HB4.out HZ3.out.lt)
  have HB5 : Hid (Below w.heap.size w w4) := Lib.hid (HB3.out.trans (HB4.out.mono HB3.out.size))
  have HSD := Lib.hid (decodedSegs A3 B.length c3 (fun j => (nth B j : Nat)) HBN.out rp A4 n4 c4 (by rw [HOUT.out.len]; exact Nat.le_trans (byt_len _) HSL.out) (byt segs) (byt_le segs HOK.out) V4 w4 HDR.out HRB.out HOUT.out)
  clear HDEC HZ3 HB3 HB4 HDR HOUT HRB HR3
  go_wp2_with fail
  refine HSD.out.mono ?_
  rintro e w5 ⟨r, A5, n5, c5, V5, rfl, ⟨hr1, hr2⟩, HN5, HO5, HB6⟩
  have HZ5 := Lib.hid (HZ4.out.below HB6.out HZ4.out.lt)
  have HB7 : Hid (Below w.heap.size w w5) := Lib.hid (HB5.out.trans (HB6.out.mono HB5.out.size))
  have h8 : ∀ (t lv : ByteArray) (a b c' d : Int), (#[.string t, r, .slice A5 n5 c5, .string lv, .int .i64 a, .int .i64 b, .int .i64 c', .int .i64 d] : Array Value).all (·.oneCell') = true := fun t lv a b c' d => by simp [hr1]; exact ⟨rfl, rfl, rfl, rfl, rfl, rfl, rfl⟩
  go_wp2_with (refine wpList_store_row rfl 34 (.tmp 6) (.tmp 26) rfl E #[.string (bs (txt segs)), r, .slice A5 n5 c5, .string (lvName l), .int .i64 0, .int .i64 sq, .int .i64 pr, .int .i64 1] rfl rfl 34 _ HZ5.out infoD rfl (h8 _ _ _ _ _ _) ?_)
  have hA := setRow_heap w5 E _ #[.string (bs (txt segs)), r, .slice A5 n5 c5, .string (lvName l), .int .i64 0, .int .i64 sq, .int .i64 pr, .int .i64 1] _ _ HZ5.out
  have hMd := Mod.setRow w5 E #[.string (bs (txt segs)), r, .slice A5 n5 c5, .string (lvName l), .int .i64 0, .int .i64 sq, .int .i64 pr, .int .i64 1]
  have hM : Below w.heap.size w (w5.setRow E #[.string (bs (txt segs)), r, .slice A5 n5 c5, .string (lvName l), .int .i64 0, .int .i64 sq, .int .i64 pr, .int .i64 1]) := HB7.out.trans (hMd.below HB7.out.size (fun k hk => by rw [hk, HE.out]; exact Nat.le_refl _))
  have hEl := HZ4.out.lt
  have hB := HO5.out.mod hMd (fun j hj e => by have := (HO5.out.own.lt j hj).1; omega) (fun j h1 _ e => by omega) (fun j _ h => h)
  have hBo := hB.out HN5.out
  go_wp2_with fail
  refine bodyPost_ret (v := .tuple #[.agg #[.string (bs (txt segs)), r, .slice A5 n5 c5, .string (lvName l), .int .i64 0, .int .i64 sq, .int .i64 pr, .int .i64 1], .bool true]) (results_cellD (p := 6) (q := 7) (ty := 34) (tq := 4) (by kernel_rfl) _ _ E 34 _ _ rfl hA Try.underlying34 rfl infoD) rfl ?_
  exact ⟨r, A5, n5, c5, V5, rfl, ⟨hr1, hr2⟩, Lib.hid hBo, Lib.hid hM⟩
end Go.Proofs.Ythkiajighmhdoaa
