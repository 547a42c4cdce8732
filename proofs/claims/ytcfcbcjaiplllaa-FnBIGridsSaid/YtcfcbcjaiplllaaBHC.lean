/-
  The steps of spec.BIGridSteps, walked. No condition beyond the bounds that each theorem states.
-/
import Derived.Test.YtcfcbcjaiplllaaBHB
import Derived.Test.YtcfcbcjaiplllaaBGY0
import Derived.StillTailTactics
import Derived.BigQuiet
import Derived.BigRegion
import Derived.Deep.RegionLaw
namespace Go.Proofs.Ytcfcbcjaiplllaa
open Go.RowKit Go.Qz
set_option linter.unusedVariables false

noncomputable def bodyS : Code := Try.f14.body.getD .skip
/-- The switch of spec.BIGridSteps. -/
noncomputable def swS : Code := cL (cR (cB (cL (cR (cB (cB (cR (cL (cR (cR bodyS))))))))))
def GSPost (W H E : Nat) (w1 wx : World) (s0 s1 : Value) : Prop := ∃ s : Stp, s.good W H ∧ s0 = .int .i64 ((if s.op = 8 then H else W : Nat) : Int) ∧ s1 = .int .i64 ((if s.op = 8 then W else H : Nat) : Int) ∧ Arr wx 65 E s.cells ∧
  (s.op = 9 ∨ s.op = 10 → ∃ b, s.A = some ⟨b, 0, none⟩ ∧ w1.heap.size ≤ b ∧ b < wx.heap.size ∧ ∀ i, i < s.n → wx.cell? ⟨b, i, none⟩ = some (.bool (s.B i))) ∧ Mod (fun q => q = E) w1 wx

set_option maxRecDepth 100000 in
set_option maxHeartbeats 6400000 in
theorem gs1 {J K' : Act → World → Prop} {Q' : Exit → Act → World → Prop} {W1 : World} {E W H : Nat} {X Y CC D : Int} {SA : Option Addr} {sn sc : Nat} {B : Nat → Bool}
    {v2 v3 v4 v5 v6 v7 v8 v9 v10 v12 v13 v14 v15 v16 v17 v18 v19 v20 v21 v22 v23 v24 v25 v26 v27 v28 v29 v30 v31 v32 v33 v34 v35 v36 v37 v38 v39 v40 v41 v42 v43 v44 v45 v46 v47 v48 v49 v50 v51 v52 v53 v54 v55 v56 v57 v58 v59 v60 v61 v62 v63 v64 v65 v66 v67 v68 v69 v70 v71 v72 v73 v74 v75 v76 v77 v78 v79 v80 v81 v82 v83 v84 v85 v86 v87 v88 v89 v90 v91 v92 v93 v94 v95 v96 v97 v98 v99 v100 v101 v102 v103 v104 v105 : Value}
    (hJ : ∀ a' w', (∃ u0 u1 u12 u13 u14 u15 u16 u17 u18 u19 u20 u21 u22 u23 u24 u25 u26 u27 u28 u29 u30 u31 u32 u33 u34 u35 u36 u37 u38 u39 u40 u41 u42 u43 u44 u45 u46 u47 u48 u49 u50 u51 u52 u53 u54 u55 u56 u57 u58 u59 u60 u61 u62 u63 u64 u65 u66 u67 u68 u69 u70 u71 u72 u73 u74 u75 u76 u77 u78 u79 u80 u81 u82 u83 u84 u85 u86 u87 u88 u89 u90 u91 u92 u93 u94 u95 u96 u97 u98 u99 u100 u101 u102 u103 u104 : Value, Hid (GSPost W H E W1 w' u0 u1) ∧ a' = ⟨List.toArray (u0 :: u1 :: v2 :: v3 :: v4 :: v5 :: v6 :: v7 :: v8 :: v9 :: v10 :: .pointer (some ⟨E, 0, none⟩) :: u12 :: u13 :: u14 :: u15 :: u16 :: u17 :: u18 :: u19 :: u20 :: u21 :: u22 :: u23 :: u24 :: u25 :: u26 :: u27 :: u28 :: u29 :: u30 :: u31 :: u32 :: u33 :: u34 :: u35 :: u36 :: u37 :: u38 :: u39 :: u40 :: u41 :: u42 :: u43 :: u44 :: u45 :: u46 :: u47 :: u48 :: u49 :: u50 :: u51 :: u52 :: u53 :: u54 :: u55 :: u56 :: u57 :: u58 :: u59 :: u60 :: u61 :: u62 :: u63 :: u64 :: u65 :: u66 :: u67 :: u68 :: u69 :: u70 :: u71 :: u72 :: u73 :: u74 :: u75 :: u76 :: u77 :: u78 :: u79 :: u80 :: u81 :: u82 :: u83 :: u84 :: u85 :: u86 :: u87 :: u88 :: u89 :: u90 :: u91 :: u92 :: u93 :: u94 :: u95 :: u96 :: u97 :: u98 :: u99 :: u100 :: u101 :: u102 :: u103 :: u104 :: v105 :: []), []⟩) → J a' w') (hK : ∀ a' w', Met J a' w' → K' a' w')
    (HA : Hid (Arr W1 65 E [.int .i64 1, .int .i64 X, .int .i64 Y, .int .i64 CC, .int .i64 D, .slice SA sn sc])) (HI : Hid (i64In X ∧ i64In Y)) (hW : 0 < W) (hH : 0 < H) (hWl : W < 200) (hHl : H < 200) (HRD : Hid (Rd W1 SA sn (fun i => .bool (B i)))) (HSN : Hid (sn < 4294967296)) :
    Code.wp Try.prog swS (Exit.then K' (Qp Q')) ⟨List.toArray (.int .i64 W :: .int .i64 H :: v2 :: v3 :: v4 :: v5 :: v6 :: v7 :: v8 :: v9 :: v10 :: .pointer (some ⟨E, 0, none⟩) :: v12 :: v13 :: v14 :: v15 :: v16 :: v17 :: v18 :: v19 :: v20 :: v21 :: v22 :: v23 :: v24 :: v25 :: v26 :: v27 :: v28 :: v29 :: v30 :: v31 :: v32 :: v33 :: v34 :: v35 :: v36 :: v37 :: v38 :: v39 :: v40 :: v41 :: v42 :: v43 :: v44 :: v45 :: v46 :: v47 :: v48 :: v49 :: v50 :: v51 :: v52 :: v53 :: v54 :: v55 :: v56 :: v57 :: v58 :: v59 :: v60 :: v61 :: v62 :: v63 :: v64 :: v65 :: v66 :: v67 :: v68 :: v69 :: v70 :: v71 :: v72 :: v73 :: v74 :: v75 :: v76 :: v77 :: v78 :: v79 :: v80 :: v81 :: v82 :: v83 :: v84 :: v85 :: v86 :: v87 :: v88 :: v89 :: v90 :: v91 :: v92 :: v93 :: v94 :: v95 :: v96 :: v97 :: v98 :: v99 :: v100 :: v101 :: v102 :: v103 :: v104 :: v105 :: []), []⟩ W1 := by
  have a0 := HA.out.cell? 0
  have a1 := HA.out.cell? 1
  have a2 := HA.out.cell? 2
  have a3 := HA.out.cell? 3
  have a4 := HA.out.cell? 4
  have a5 := HA.out.cell? 5
  simp only [List.getElem?_cons_zero, List.getElem?_cons_succ] at a0 a1 a2 a3 a4 a5
  unfold swS bodyS
  dsimp only [cL, cR, cB, Try.f14, Option.getD]
  have HR : Hid (∀ (S : Nat) (n : Int) (w : World), (0 < S ∧ S ≤ 4096) → i64In n → Calls Try.prog 27 #[.agg #[.int .i64 0, .int .i64 S, .int .i64 0], .int .i64 n] w fun e w' => ∃ x : Nat, e = .returned (.int .i64 x) ∧ x < S ∧ Below w.heap.size w w') := Lib.hid (fun S n w hS hn => rsSize S hS n hn.1 hn.2 w)
  have kW : 0 < W ∧ W ≤ 4096 := ⟨hW, by omega⟩
  have kH : 0 < H ∧ H ≤ 4096 := ⟨hH, by omega⟩
  have KW := Lib.hid kW
  have KH := Lib.hid kH
  clear kW kH
  have hE := HA.out.lt
  have f1 := HA.out.free 1
  have f2 := HA.out.free 2
  go_wp2_with fail
  go_region_law (first | (go_simp; go_at_call 27; refine (HR.out _ _ _ (by first | exact KW.out | exact KH.out) (by first | exact HI.out.1 | exact HI.out.2)).mono ?_; rintro e w4 ⟨y, rfl, hy, hb4⟩; have HB4 : Hid (Below W1.heap.size W1 w4) := Lib.hid (HB3.out.trans (hb4.mono HB3.out.size)); have d1 := (HB4.out.cell (p := ⟨E, 1, none⟩) hE).trans a1; have d2 := (HB4.out.cell (p := ⟨E, 2, none⟩) hE).trans a2; have g1 := (HB4.out.frozen (p := ⟨E, 1, none⟩) hE).trans f1; have g2 := (HB4.out.frozen (p := ⟨E, 2, none⟩) hE).trans f2; clear hb4) | (go_simp; go_at_call 27; refine (HR.out _ _ _ (by first | exact KW.out | exact KH.out) (by first | exact HI.out.1 | exact HI.out.2)).mono ?_; rintro e w3 ⟨x, rfl, hx, hb3⟩; have HB3 : Hid (Below W1.heap.size W1 w3) := Lib.hid ((Below.refl _ _).drew.trans hb3); have b1 := (HB3.out.cell (p := ⟨E, 1, none⟩) hE).trans a1; have b2 := (HB3.out.cell (p := ⟨E, 2, none⟩) hE).trans a2; clear hb3))
  all_goals
    have HPOST : Hid (GSPost W H E W1 ((w4.setCell ⟨E, 1, none⟩ (.int .i64 (x : Nat))).setCell ⟨E, 2, none⟩ (.int .i64 (y : Nat))) (.int .i64 W) (.int .i64 H)) := Lib.hid ⟨⟨1, (x : Int), (y : Int), CC, D, SA, sn, sc, B⟩, .inl ⟨by simp, (show (0 : Int) ≤ (x : Int) by omega), (show (x : Int) < (W : Int) by omega), (show (0 : Int) ≤ (y : Int) by omega), (show (y : Int) < (H : Int) by omega)⟩, by simp, by simp, ((HA.out.mod (Mod.of_below (S := fun _ => False) HB4.out) (fun h => h)).set_ 1 _).set_ 2 _, by simp, ((Mod.of_below (S := fun q => q = E) HB4.out).setCell (p := ⟨E, 1, none⟩) (.inl rfl) _).setCell (p := ⟨E, 2, none⟩) (.inl rfl) _⟩
    go_wp2_with fail
    refine Met.intro ?_
    go_step
    refine And.left (b := True) ?_
    go_big_round
    exact ⟨HPOST, trivial⟩
set_option maxRecDepth 100000 in
set_option maxHeartbeats 6400000 in
theorem gs2 {J K' : Act → World → Prop} {Q' : Exit → Act → World → Prop} {W1 : World} {E W H : Nat} {X Y CC D : Int} {SA : Option Addr} {sn sc : Nat} {B : Nat → Bool}
    {v2 v3 v4 v5 v6 v7 v8 v9 v10 v12 v13 v14 v15 v16 v17 v18 v19 v20 v21 v22 v23 v24 v25 v26 v27 v28 v29 v30 v31 v32 v33 v34 v35 v36 v37 v38 v39 v40 v41 v42 v43 v44 v45 v46 v47 v48 v49 v50 v51 v52 v53 v54 v55 v56 v57 v58 v59 v60 v61 v62 v63 v64 v65 v66 v67 v68 v69 v70 v71 v72 v73 v74 v75 v76 v77 v78 v79 v80 v81 v82 v83 v84 v85 v86 v87 v88 v89 v90 v91 v92 v93 v94 v95 v96 v97 v98 v99 v100 v101 v102 v103 v104 v105 : Value}
    (hJ : ∀ a' w', (∃ u0 u1 u12 u13 u14 u15 u16 u17 u18 u19 u20 u21 u22 u23 u24 u25 u26 u27 u28 u29 u30 u31 u32 u33 u34 u35 u36 u37 u38 u39 u40 u41 u42 u43 u44 u45 u46 u47 u48 u49 u50 u51 u52 u53 u54 u55 u56 u57 u58 u59 u60 u61 u62 u63 u64 u65 u66 u67 u68 u69 u70 u71 u72 u73 u74 u75 u76 u77 u78 u79 u80 u81 u82 u83 u84 u85 u86 u87 u88 u89 u90 u91 u92 u93 u94 u95 u96 u97 u98 u99 u100 u101 u102 u103 u104 : Value, Hid (GSPost W H E W1 w' u0 u1) ∧ a' = ⟨List.toArray (u0 :: u1 :: v2 :: v3 :: v4 :: v5 :: v6 :: v7 :: v8 :: v9 :: v10 :: .pointer (some ⟨E, 0, none⟩) :: u12 :: u13 :: u14 :: u15 :: u16 :: u17 :: u18 :: u19 :: u20 :: u21 :: u22 :: u23 :: u24 :: u25 :: u26 :: u27 :: u28 :: u29 :: u30 :: u31 :: u32 :: u33 :: u34 :: u35 :: u36 :: u37 :: u38 :: u39 :: u40 :: u41 :: u42 :: u43 :: u44 :: u45 :: u46 :: u47 :: u48 :: u49 :: u50 :: u51 :: u52 :: u53 :: u54 :: u55 :: u56 :: u57 :: u58 :: u59 :: u60 :: u61 :: u62 :: u63 :: u64 :: u65 :: u66 :: u67 :: u68 :: u69 :: u70 :: u71 :: u72 :: u73 :: u74 :: u75 :: u76 :: u77 :: u78 :: u79 :: u80 :: u81 :: u82 :: u83 :: u84 :: u85 :: u86 :: u87 :: u88 :: u89 :: u90 :: u91 :: u92 :: u93 :: u94 :: u95 :: u96 :: u97 :: u98 :: u99 :: u100 :: u101 :: u102 :: u103 :: u104 :: v105 :: []), []⟩) → J a' w') (hK : ∀ a' w', Met J a' w' → K' a' w')
    (HA : Hid (Arr W1 65 E [.int .i64 2, .int .i64 X, .int .i64 Y, .int .i64 CC, .int .i64 D, .slice SA sn sc])) (HI : Hid (i64In X ∧ i64In Y)) (hW : 0 < W) (hH : 0 < H) (hWl : W < 200) (hHl : H < 200) (HRD : Hid (Rd W1 SA sn (fun i => .bool (B i)))) (HSN : Hid (sn < 4294967296)) :
    Code.wp Try.prog swS (Exit.then K' (Qp Q')) ⟨List.toArray (.int .i64 W :: .int .i64 H :: v2 :: v3 :: v4 :: v5 :: v6 :: v7 :: v8 :: v9 :: v10 :: .pointer (some ⟨E, 0, none⟩) :: v12 :: v13 :: v14 :: v15 :: v16 :: v17 :: v18 :: v19 :: v20 :: v21 :: v22 :: v23 :: v24 :: v25 :: v26 :: v27 :: v28 :: v29 :: v30 :: v31 :: v32 :: v33 :: v34 :: v35 :: v36 :: v37 :: v38 :: v39 :: v40 :: v41 :: v42 :: v43 :: v44 :: v45 :: v46 :: v47 :: v48 :: v49 :: v50 :: v51 :: v52 :: v53 :: v54 :: v55 :: v56 :: v57 :: v58 :: v59 :: v60 :: v61 :: v62 :: v63 :: v64 :: v65 :: v66 :: v67 :: v68 :: v69 :: v70 :: v71 :: v72 :: v73 :: v74 :: v75 :: v76 :: v77 :: v78 :: v79 :: v80 :: v81 :: v82 :: v83 :: v84 :: v85 :: v86 :: v87 :: v88 :: v89 :: v90 :: v91 :: v92 :: v93 :: v94 :: v95 :: v96 :: v97 :: v98 :: v99 :: v100 :: v101 :: v102 :: v103 :: v104 :: v105 :: []), []⟩ W1 := by
  have a0 := HA.out.cell? 0
  have a1 := HA.out.cell? 1
  have a2 := HA.out.cell? 2
  have a3 := HA.out.cell? 3
  have a4 := HA.out.cell? 4
  have a5 := HA.out.cell? 5
  simp only [List.getElem?_cons_zero, List.getElem?_cons_succ] at a0 a1 a2 a3 a4 a5
  unfold swS bodyS
  dsimp only [cL, cR, cB, Try.f14, Option.getD]
  have HR : Hid (∀ (S : Nat) (n : Int) (w : World), (0 < S ∧ S ≤ 4096) → i64In n → Calls Try.prog 27 #[.agg #[.int .i64 0, .int .i64 S, .int .i64 0], .int .i64 n] w fun e w' => ∃ x : Nat, e = .returned (.int .i64 x) ∧ x < S ∧ Below w.heap.size w w') := Lib.hid (fun S n w hS hn => rsSize S hS n hn.1 hn.2 w)
  have kW : 0 < W ∧ W ≤ 4096 := ⟨hW, by omega⟩
  have kH : 0 < H ∧ H ≤ 4096 := ⟨hH, by omega⟩
  have KW := Lib.hid kW
  have KH := Lib.hid kH
  clear kW kH
  have hE := HA.out.lt
  have f1 := HA.out.free 1
  have f2 := HA.out.free 2
  go_wp2_with fail
  go_region_law (first | (go_simp; go_at_call 27; refine (HR.out _ _ _ (by first | exact KW.out | exact KH.out) (by first | exact HI.out.1 | exact HI.out.2)).mono ?_; rintro e w4 ⟨y, rfl, hy, hb4⟩; have HB4 : Hid (Below W1.heap.size W1 w4) := Lib.hid (HB3.out.trans (hb4.mono HB3.out.size)); have d1 := (HB4.out.cell (p := ⟨E, 1, none⟩) hE).trans a1; have d2 := (HB4.out.cell (p := ⟨E, 2, none⟩) hE).trans a2; have g1 := (HB4.out.frozen (p := ⟨E, 1, none⟩) hE).trans f1; have g2 := (HB4.out.frozen (p := ⟨E, 2, none⟩) hE).trans f2; clear hb4) | (go_simp; go_at_call 27; refine (HR.out _ _ _ (by first | exact KW.out | exact KH.out) (by first | exact HI.out.1 | exact HI.out.2)).mono ?_; rintro e w3 ⟨x, rfl, hx, hb3⟩; have HB3 : Hid (Below W1.heap.size W1 w3) := Lib.hid ((Below.refl _ _).drew.trans hb3); have b1 := (HB3.out.cell (p := ⟨E, 1, none⟩) hE).trans a1; have b2 := (HB3.out.cell (p := ⟨E, 2, none⟩) hE).trans a2; clear hb3))
  all_goals
    have HPOST : Hid (GSPost W H E W1 ((w4.setCell ⟨E, 1, none⟩ (.int .i64 (x : Nat))).setCell ⟨E, 2, none⟩ (.int .i64 (y : Nat))) (.int .i64 W) (.int .i64 H)) := Lib.hid ⟨⟨2, (x : Int), (y : Int), CC, D, SA, sn, sc, B⟩, .inl ⟨by simp, (show (0 : Int) ≤ (x : Int) by omega), (show (x : Int) < (W : Int) by omega), (show (0 : Int) ≤ (y : Int) by omega), (show (y : Int) < (H : Int) by omega)⟩, by simp, by simp, ((HA.out.mod (Mod.of_below (S := fun _ => False) HB4.out) (fun h => h)).set_ 1 _).set_ 2 _, by simp, ((Mod.of_below (S := fun q => q = E) HB4.out).setCell (p := ⟨E, 1, none⟩) (.inl rfl) _).setCell (p := ⟨E, 2, none⟩) (.inl rfl) _⟩
    go_wp2_with fail
    refine Met.intro ?_
    go_step
    refine And.left (b := True) ?_
    go_big_round
    exact ⟨HPOST, trivial⟩
set_option maxRecDepth 100000 in
set_option maxHeartbeats 6400000 in
theorem gs3 {J K' : Act → World → Prop} {Q' : Exit → Act → World → Prop} {W1 : World} {E W H : Nat} {X Y CC D : Int} {SA : Option Addr} {sn sc : Nat} {B : Nat → Bool}
    {v2 v3 v4 v5 v6 v7 v8 v9 v10 v12 v13 v14 v15 v16 v17 v18 v19 v20 v21 v22 v23 v24 v25 v26 v27 v28 v29 v30 v31 v32 v33 v34 v35 v36 v37 v38 v39 v40 v41 v42 v43 v44 v45 v46 v47 v48 v49 v50 v51 v52 v53 v54 v55 v56 v57 v58 v59 v60 v61 v62 v63 v64 v65 v66 v67 v68 v69 v70 v71 v72 v73 v74 v75 v76 v77 v78 v79 v80 v81 v82 v83 v84 v85 v86 v87 v88 v89 v90 v91 v92 v93 v94 v95 v96 v97 v98 v99 v100 v101 v102 v103 v104 v105 : Value}
    (hJ : ∀ a' w', (∃ u0 u1 u12 u13 u14 u15 u16 u17 u18 u19 u20 u21 u22 u23 u24 u25 u26 u27 u28 u29 u30 u31 u32 u33 u34 u35 u36 u37 u38 u39 u40 u41 u42 u43 u44 u45 u46 u47 u48 u49 u50 u51 u52 u53 u54 u55 u56 u57 u58 u59 u60 u61 u62 u63 u64 u65 u66 u67 u68 u69 u70 u71 u72 u73 u74 u75 u76 u77 u78 u79 u80 u81 u82 u83 u84 u85 u86 u87 u88 u89 u90 u91 u92 u93 u94 u95 u96 u97 u98 u99 u100 u101 u102 u103 u104 : Value, Hid (GSPost W H E W1 w' u0 u1) ∧ a' = ⟨List.toArray (u0 :: u1 :: v2 :: v3 :: v4 :: v5 :: v6 :: v7 :: v8 :: v9 :: v10 :: .pointer (some ⟨E, 0, none⟩) :: u12 :: u13 :: u14 :: u15 :: u16 :: u17 :: u18 :: u19 :: u20 :: u21 :: u22 :: u23 :: u24 :: u25 :: u26 :: u27 :: u28 :: u29 :: u30 :: u31 :: u32 :: u33 :: u34 :: u35 :: u36 :: u37 :: u38 :: u39 :: u40 :: u41 :: u42 :: u43 :: u44 :: u45 :: u46 :: u47 :: u48 :: u49 :: u50 :: u51 :: u52 :: u53 :: u54 :: u55 :: u56 :: u57 :: u58 :: u59 :: u60 :: u61 :: u62 :: u63 :: u64 :: u65 :: u66 :: u67 :: u68 :: u69 :: u70 :: u71 :: u72 :: u73 :: u74 :: u75 :: u76 :: u77 :: u78 :: u79 :: u80 :: u81 :: u82 :: u83 :: u84 :: u85 :: u86 :: u87 :: u88 :: u89 :: u90 :: u91 :: u92 :: u93 :: u94 :: u95 :: u96 :: u97 :: u98 :: u99 :: u100 :: u101 :: u102 :: u103 :: u104 :: v105 :: []), []⟩) → J a' w') (hK : ∀ a' w', Met J a' w' → K' a' w')
    (HA : Hid (Arr W1 65 E [.int .i64 3, .int .i64 X, .int .i64 Y, .int .i64 CC, .int .i64 D, .slice SA sn sc])) (HI : Hid (i64In X ∧ i64In Y)) (hW : 0 < W) (hH : 0 < H) (hWl : W < 200) (hHl : H < 200) (HRD : Hid (Rd W1 SA sn (fun i => .bool (B i)))) (HSN : Hid (sn < 4294967296)) :
    Code.wp Try.prog swS (Exit.then K' (Qp Q')) ⟨List.toArray (.int .i64 W :: .int .i64 H :: v2 :: v3 :: v4 :: v5 :: v6 :: v7 :: v8 :: v9 :: v10 :: .pointer (some ⟨E, 0, none⟩) :: v12 :: v13 :: v14 :: v15 :: v16 :: v17 :: v18 :: v19 :: v20 :: v21 :: v22 :: v23 :: v24 :: v25 :: v26 :: v27 :: v28 :: v29 :: v30 :: v31 :: v32 :: v33 :: v34 :: v35 :: v36 :: v37 :: v38 :: v39 :: v40 :: v41 :: v42 :: v43 :: v44 :: v45 :: v46 :: v47 :: v48 :: v49 :: v50 :: v51 :: v52 :: v53 :: v54 :: v55 :: v56 :: v57 :: v58 :: v59 :: v60 :: v61 :: v62 :: v63 :: v64 :: v65 :: v66 :: v67 :: v68 :: v69 :: v70 :: v71 :: v72 :: v73 :: v74 :: v75 :: v76 :: v77 :: v78 :: v79 :: v80 :: v81 :: v82 :: v83 :: v84 :: v85 :: v86 :: v87 :: v88 :: v89 :: v90 :: v91 :: v92 :: v93 :: v94 :: v95 :: v96 :: v97 :: v98 :: v99 :: v100 :: v101 :: v102 :: v103 :: v104 :: v105 :: []), []⟩ W1 := by
  have a0 := HA.out.cell? 0
  have a1 := HA.out.cell? 1
  have a2 := HA.out.cell? 2
  have a3 := HA.out.cell? 3
  have a4 := HA.out.cell? 4
  have a5 := HA.out.cell? 5
  simp only [List.getElem?_cons_zero, List.getElem?_cons_succ] at a0 a1 a2 a3 a4 a5
  unfold swS bodyS
  dsimp only [cL, cR, cB, Try.f14, Option.getD]
  have HR : Hid (∀ (S : Nat) (n : Int) (w : World), (0 < S ∧ S ≤ 4096) → i64In n → Calls Try.prog 27 #[.agg #[.int .i64 0, .int .i64 S, .int .i64 0], .int .i64 n] w fun e w' => ∃ x : Nat, e = .returned (.int .i64 x) ∧ x < S ∧ Below w.heap.size w w') := Lib.hid (fun S n w hS hn => rsSize S hS n hn.1 hn.2 w)
  have kW : 0 < W ∧ W ≤ 4096 := ⟨hW, by omega⟩
  have kH : 0 < H ∧ H ≤ 4096 := ⟨hH, by omega⟩
  have KW := Lib.hid kW
  have KH := Lib.hid kH
  clear kW kH
  have hE := HA.out.lt
  have f1 := HA.out.free 1
  have f2 := HA.out.free 2
  go_wp2_with fail
  go_region_law (first | (go_simp; go_at_call 27; refine (HR.out _ _ _ (by first | exact KW.out | exact KH.out) (by first | exact HI.out.1 | exact HI.out.2)).mono ?_; rintro e w4 ⟨y, rfl, hy, hb4⟩; have HB4 : Hid (Below W1.heap.size W1 w4) := Lib.hid (HB3.out.trans (hb4.mono HB3.out.size)); have d1 := (HB4.out.cell (p := ⟨E, 1, none⟩) hE).trans a1; have d2 := (HB4.out.cell (p := ⟨E, 2, none⟩) hE).trans a2; have g1 := (HB4.out.frozen (p := ⟨E, 1, none⟩) hE).trans f1; have g2 := (HB4.out.frozen (p := ⟨E, 2, none⟩) hE).trans f2; clear hb4) | (go_simp; go_at_call 27; refine (HR.out _ _ _ (by first | exact KW.out | exact KH.out) (by first | exact HI.out.1 | exact HI.out.2)).mono ?_; rintro e w3 ⟨x, rfl, hx, hb3⟩; have HB3 : Hid (Below W1.heap.size W1 w3) := Lib.hid ((Below.refl _ _).drew.trans hb3); have b1 := (HB3.out.cell (p := ⟨E, 1, none⟩) hE).trans a1; have b2 := (HB3.out.cell (p := ⟨E, 2, none⟩) hE).trans a2; clear hb3))
  all_goals
    have HPOST : Hid (GSPost W H E W1 ((w4.setCell ⟨E, 1, none⟩ (.int .i64 (x : Nat))).setCell ⟨E, 2, none⟩ (.int .i64 (y : Nat))) (.int .i64 W) (.int .i64 H)) := Lib.hid ⟨⟨3, (x : Int), (y : Int), CC, D, SA, sn, sc, B⟩, .inl ⟨by simp, (show (0 : Int) ≤ (x : Int) by omega), (show (x : Int) < (W : Int) by omega), (show (0 : Int) ≤ (y : Int) by omega), (show (y : Int) < (H : Int) by omega)⟩, by simp, by simp, ((HA.out.mod (Mod.of_below (S := fun _ => False) HB4.out) (fun h => h)).set_ 1 _).set_ 2 _, by simp, ((Mod.of_below (S := fun q => q = E) HB4.out).setCell (p := ⟨E, 1, none⟩) (.inl rfl) _).setCell (p := ⟨E, 2, none⟩) (.inl rfl) _⟩
    go_wp2_with fail
    refine Met.intro ?_
    go_step
    refine And.left (b := True) ?_
    go_big_round
    exact ⟨HPOST, trivial⟩
set_option maxRecDepth 100000 in
set_option maxHeartbeats 6400000 in
theorem gs4 {J K' : Act → World → Prop} {Q' : Exit → Act → World → Prop} {W1 : World} {E W H : Nat} {X Y CC D : Int} {SA : Option Addr} {sn sc : Nat} {B : Nat → Bool}
    {v2 v3 v4 v5 v6 v7 v8 v9 v10 v12 v13 v14 v15 v16 v17 v18 v19 v20 v21 v22 v23 v24 v25 v26 v27 v28 v29 v30 v31 v32 v33 v34 v35 v36 v37 v38 v39 v40 v41 v42 v43 v44 v45 v46 v47 v48 v49 v50 v51 v52 v53 v54 v55 v56 v57 v58 v59 v60 v61 v62 v63 v64 v65 v66 v67 v68 v69 v70 v71 v72 v73 v74 v75 v76 v77 v78 v79 v80 v81 v82 v83 v84 v85 v86 v87 v88 v89 v90 v91 v92 v93 v94 v95 v96 v97 v98 v99 v100 v101 v102 v103 v104 v105 : Value}
    (hJ : ∀ a' w', (∃ u0 u1 u12 u13 u14 u15 u16 u17 u18 u19 u20 u21 u22 u23 u24 u25 u26 u27 u28 u29 u30 u31 u32 u33 u34 u35 u36 u37 u38 u39 u40 u41 u42 u43 u44 u45 u46 u47 u48 u49 u50 u51 u52 u53 u54 u55 u56 u57 u58 u59 u60 u61 u62 u63 u64 u65 u66 u67 u68 u69 u70 u71 u72 u73 u74 u75 u76 u77 u78 u79 u80 u81 u82 u83 u84 u85 u86 u87 u88 u89 u90 u91 u92 u93 u94 u95 u96 u97 u98 u99 u100 u101 u102 u103 u104 : Value, Hid (GSPost W H E W1 w' u0 u1) ∧ a' = ⟨List.toArray (u0 :: u1 :: v2 :: v3 :: v4 :: v5 :: v6 :: v7 :: v8 :: v9 :: v10 :: .pointer (some ⟨E, 0, none⟩) :: u12 :: u13 :: u14 :: u15 :: u16 :: u17 :: u18 :: u19 :: u20 :: u21 :: u22 :: u23 :: u24 :: u25 :: u26 :: u27 :: u28 :: u29 :: u30 :: u31 :: u32 :: u33 :: u34 :: u35 :: u36 :: u37 :: u38 :: u39 :: u40 :: u41 :: u42 :: u43 :: u44 :: u45 :: u46 :: u47 :: u48 :: u49 :: u50 :: u51 :: u52 :: u53 :: u54 :: u55 :: u56 :: u57 :: u58 :: u59 :: u60 :: u61 :: u62 :: u63 :: u64 :: u65 :: u66 :: u67 :: u68 :: u69 :: u70 :: u71 :: u72 :: u73 :: u74 :: u75 :: u76 :: u77 :: u78 :: u79 :: u80 :: u81 :: u82 :: u83 :: u84 :: u85 :: u86 :: u87 :: u88 :: u89 :: u90 :: u91 :: u92 :: u93 :: u94 :: u95 :: u96 :: u97 :: u98 :: u99 :: u100 :: u101 :: u102 :: u103 :: u104 :: v105 :: []), []⟩) → J a' w') (hK : ∀ a' w', Met J a' w' → K' a' w')
    (HA : Hid (Arr W1 65 E [.int .i64 4, .int .i64 X, .int .i64 Y, .int .i64 CC, .int .i64 D, .slice SA sn sc])) (HI : Hid (i64In X ∧ i64In Y)) (hW : 0 < W) (hH : 0 < H) (hWl : W < 200) (hHl : H < 200) (HRD : Hid (Rd W1 SA sn (fun i => .bool (B i)))) (HSN : Hid (sn < 4294967296)) :
    Code.wp Try.prog swS (Exit.then K' (Qp Q')) ⟨List.toArray (.int .i64 W :: .int .i64 H :: v2 :: v3 :: v4 :: v5 :: v6 :: v7 :: v8 :: v9 :: v10 :: .pointer (some ⟨E, 0, none⟩) :: v12 :: v13 :: v14 :: v15 :: v16 :: v17 :: v18 :: v19 :: v20 :: v21 :: v22 :: v23 :: v24 :: v25 :: v26 :: v27 :: v28 :: v29 :: v30 :: v31 :: v32 :: v33 :: v34 :: v35 :: v36 :: v37 :: v38 :: v39 :: v40 :: v41 :: v42 :: v43 :: v44 :: v45 :: v46 :: v47 :: v48 :: v49 :: v50 :: v51 :: v52 :: v53 :: v54 :: v55 :: v56 :: v57 :: v58 :: v59 :: v60 :: v61 :: v62 :: v63 :: v64 :: v65 :: v66 :: v67 :: v68 :: v69 :: v70 :: v71 :: v72 :: v73 :: v74 :: v75 :: v76 :: v77 :: v78 :: v79 :: v80 :: v81 :: v82 :: v83 :: v84 :: v85 :: v86 :: v87 :: v88 :: v89 :: v90 :: v91 :: v92 :: v93 :: v94 :: v95 :: v96 :: v97 :: v98 :: v99 :: v100 :: v101 :: v102 :: v103 :: v104 :: v105 :: []), []⟩ W1 := by
  have a0 := HA.out.cell? 0
  have a1 := HA.out.cell? 1
  have a2 := HA.out.cell? 2
  have a3 := HA.out.cell? 3
  have a4 := HA.out.cell? 4
  have a5 := HA.out.cell? 5
  simp only [List.getElem?_cons_zero, List.getElem?_cons_succ] at a0 a1 a2 a3 a4 a5
  unfold swS bodyS
  dsimp only [cL, cR, cB, Try.f14, Option.getD]
  obtain ⟨W2, hW2⟩ : ∃ W2, W2 = W + 2 := ⟨_, rfl⟩
  obtain ⟨H2, hH2⟩ : ∃ H2, H2 = H + 2 := ⟨_, rfl⟩
  have eW : (W : Int) + 2 = (W2 : Int) := by omega
  have eH : (H : Int) + 2 = (H2 : Int) := by omega
  have wW : IntKind.i64.wrap (W2 : Int) = (W2 : Int) := by rw [IntKind.wrap_i64]; omega
  have wH : IntKind.i64.wrap (H2 : Int) = (H2 : Int) := by rw [IntKind.wrap_i64]; omega
  have nW : ¬ (W2 : Int) = 0 := by omega
  have nH : ¬ (H2 : Int) = 0 := by omega
  have nW' : ¬ W2 = 0 := by omega
  have nH' : ¬ H2 = 0 := by omega
  have bX := tmod_small X W2 (by omega) (by omega)
  have bY := tmod_small Y H2 (by omega) (by omega)
  have bC := tmod_small CC W2 (by omega) (by omega)
  have bD := tmod_small D H2 (by omega) (by omega)
  obtain ⟨x, hx⟩ : ∃ x, X.tmod W2 = x := ⟨_, rfl⟩
  obtain ⟨y, hy⟩ : ∃ y, Y.tmod H2 = y := ⟨_, rfl⟩
  obtain ⟨cc, hcc⟩ : ∃ x, CC.tmod W2 = x := ⟨_, rfl⟩
  obtain ⟨dd, hdd⟩ : ∃ x, D.tmod H2 = x := ⟨_, rfl⟩
  rw [hx] at bX
  rw [hy] at bY
  rw [hcc] at bC
  rw [hdd] at bD
  have rX := fun w => rem_run X W2 x nW hx w
  have rY := fun w => rem_run Y H2 y nH hy w
  have rC := fun w => rem_run CC W2 cc nW hcc w
  have rD := fun w => rem_run D H2 dd nH hdd w
  have hE := HA.out.lt
  have f1 := HA.out.free 1
  have f2 := HA.out.free 2
  have f3 := HA.out.free 3
  have f4 := HA.out.free 4
  have HPOST : Hid (GSPost W H E W1 ((((W1.setCell ⟨E, 1, none⟩ (.int .i64 x)).setCell ⟨E, 2, none⟩ (.int .i64 y)).setCell ⟨E, 3, none⟩ (.int .i64 cc)).setCell ⟨E, 4, none⟩ (.int .i64 dd)).drew (.int .i64 W) (.int .i64 H)) := Lib.hid ⟨⟨4, x, y, cc, dd, SA, sn, sc, B⟩, .inr (.inl ⟨rfl, bX, bY, bC, bD⟩), by simp, by simp, ((((HA.out.set_ 1 _).set_ 2 _).set_ 3 _).set_ 4 _).mod (Mod.drew (Mod.refl (S := fun _ => False) _)) (fun h => h), by simp, (((((Mod.refl (S := fun q => q = E) W1).setCell (p := ⟨E, 1, none⟩) (.inl rfl) _).setCell (p := ⟨E, 2, none⟩) (.inl rfl) _).setCell (p := ⟨E, 3, none⟩) (.inl rfl) _).setCell (p := ⟨E, 4, none⟩) (.inl rfl) _).drew⟩
  clear hW2 hH2 bX bY bC bD
  go_wp2_with fail
  go_region
  all_goals go_wp2_with fail
  all_goals
    refine Met.intro ?_
    go_step
    refine And.left (b := True) ?_
    go_big_round
    exact ⟨HPOST, trivial⟩
set_option maxRecDepth 100000 in
set_option maxHeartbeats 6400000 in
theorem gs5 {J K' : Act → World → Prop} {Q' : Exit → Act → World → Prop} {W1 : World} {E W H : Nat} {X Y CC D : Int} {SA : Option Addr} {sn sc : Nat} {B : Nat → Bool}
    {v2 v3 v4 v5 v6 v7 v8 v9 v10 v12 v13 v14 v15 v16 v17 v18 v19 v20 v21 v22 v23 v24 v25 v26 v27 v28 v29 v30 v31 v32 v33 v34 v35 v36 v37 v38 v39 v40 v41 v42 v43 v44 v45 v46 v47 v48 v49 v50 v51 v52 v53 v54 v55 v56 v57 v58 v59 v60 v61 v62 v63 v64 v65 v66 v67 v68 v69 v70 v71 v72 v73 v74 v75 v76 v77 v78 v79 v80 v81 v82 v83 v84 v85 v86 v87 v88 v89 v90 v91 v92 v93 v94 v95 v96 v97 v98 v99 v100 v101 v102 v103 v104 v105 : Value}
    (hJ : ∀ a' w', (∃ u0 u1 u12 u13 u14 u15 u16 u17 u18 u19 u20 u21 u22 u23 u24 u25 u26 u27 u28 u29 u30 u31 u32 u33 u34 u35 u36 u37 u38 u39 u40 u41 u42 u43 u44 u45 u46 u47 u48 u49 u50 u51 u52 u53 u54 u55 u56 u57 u58 u59 u60 u61 u62 u63 u64 u65 u66 u67 u68 u69 u70 u71 u72 u73 u74 u75 u76 u77 u78 u79 u80 u81 u82 u83 u84 u85 u86 u87 u88 u89 u90 u91 u92 u93 u94 u95 u96 u97 u98 u99 u100 u101 u102 u103 u104 : Value, Hid (GSPost W H E W1 w' u0 u1) ∧ a' = ⟨List.toArray (u0 :: u1 :: v2 :: v3 :: v4 :: v5 :: v6 :: v7 :: v8 :: v9 :: v10 :: .pointer (some ⟨E, 0, none⟩) :: u12 :: u13 :: u14 :: u15 :: u16 :: u17 :: u18 :: u19 :: u20 :: u21 :: u22 :: u23 :: u24 :: u25 :: u26 :: u27 :: u28 :: u29 :: u30 :: u31 :: u32 :: u33 :: u34 :: u35 :: u36 :: u37 :: u38 :: u39 :: u40 :: u41 :: u42 :: u43 :: u44 :: u45 :: u46 :: u47 :: u48 :: u49 :: u50 :: u51 :: u52 :: u53 :: u54 :: u55 :: u56 :: u57 :: u58 :: u59 :: u60 :: u61 :: u62 :: u63 :: u64 :: u65 :: u66 :: u67 :: u68 :: u69 :: u70 :: u71 :: u72 :: u73 :: u74 :: u75 :: u76 :: u77 :: u78 :: u79 :: u80 :: u81 :: u82 :: u83 :: u84 :: u85 :: u86 :: u87 :: u88 :: u89 :: u90 :: u91 :: u92 :: u93 :: u94 :: u95 :: u96 :: u97 :: u98 :: u99 :: u100 :: u101 :: u102 :: u103 :: u104 :: v105 :: []), []⟩) → J a' w') (hK : ∀ a' w', Met J a' w' → K' a' w')
    (HA : Hid (Arr W1 65 E [.int .i64 5, .int .i64 X, .int .i64 Y, .int .i64 CC, .int .i64 D, .slice SA sn sc])) (HI : Hid (i64In X ∧ i64In Y)) (hW : 0 < W) (hH : 0 < H) (hWl : W < 200) (hHl : H < 200) (HRD : Hid (Rd W1 SA sn (fun i => .bool (B i)))) (HSN : Hid (sn < 4294967296)) :
    Code.wp Try.prog swS (Exit.then K' Q') ⟨List.toArray (.int .i64 W :: .int .i64 H :: v2 :: v3 :: v4 :: v5 :: v6 :: v7 :: v8 :: v9 :: v10 :: .pointer (some ⟨E, 0, none⟩) :: v12 :: v13 :: v14 :: v15 :: v16 :: v17 :: v18 :: v19 :: v20 :: v21 :: v22 :: v23 :: v24 :: v25 :: v26 :: v27 :: v28 :: v29 :: v30 :: v31 :: v32 :: v33 :: v34 :: v35 :: v36 :: v37 :: v38 :: v39 :: v40 :: v41 :: v42 :: v43 :: v44 :: v45 :: v46 :: v47 :: v48 :: v49 :: v50 :: v51 :: v52 :: v53 :: v54 :: v55 :: v56 :: v57 :: v58 :: v59 :: v60 :: v61 :: v62 :: v63 :: v64 :: v65 :: v66 :: v67 :: v68 :: v69 :: v70 :: v71 :: v72 :: v73 :: v74 :: v75 :: v76 :: v77 :: v78 :: v79 :: v80 :: v81 :: v82 :: v83 :: v84 :: v85 :: v86 :: v87 :: v88 :: v89 :: v90 :: v91 :: v92 :: v93 :: v94 :: v95 :: v96 :: v97 :: v98 :: v99 :: v100 :: v101 :: v102 :: v103 :: v104 :: v105 :: []), []⟩ W1 := by
  have a0 := HA.out.cell? 0
  have a1 := HA.out.cell? 1
  have a2 := HA.out.cell? 2
  have a3 := HA.out.cell? 3
  have a4 := HA.out.cell? 4
  have a5 := HA.out.cell? 5
  simp only [List.getElem?_cons_zero, List.getElem?_cons_succ] at a0 a1 a2 a3 a4 a5
  unfold swS bodyS
  dsimp only [cL, cR, cB, Try.f14, Option.getD]
  have HPOST : Hid (GSPost W H E W1 W1 (.int .i64 W) (.int .i64 H)) := Lib.hid ⟨⟨5, X, Y, CC, D, SA, sn, sc, B⟩, .inr (.inr (.inl rfl)), by simp, by simp, HA.out, by simp, Mod.refl _⟩
  go_wp2_with fail
  refine Met.intro ?_
  go_step
  refine And.left (b := True) ?_
  go_big_round
  exact ⟨HPOST, trivial⟩
set_option maxRecDepth 100000 in
set_option maxHeartbeats 6400000 in
theorem gs6 {J K' : Act → World → Prop} {Q' : Exit → Act → World → Prop} {W1 : World} {E W H : Nat} {X Y CC D : Int} {SA : Option Addr} {sn sc : Nat} {B : Nat → Bool}
    {v2 v3 v4 v5 v6 v7 v8 v9 v10 v12 v13 v14 v15 v16 v17 v18 v19 v20 v21 v22 v23 v24 v25 v26 v27 v28 v29 v30 v31 v32 v33 v34 v35 v36 v37 v38 v39 v40 v41 v42 v43 v44 v45 v46 v47 v48 v49 v50 v51 v52 v53 v54 v55 v56 v57 v58 v59 v60 v61 v62 v63 v64 v65 v66 v67 v68 v69 v70 v71 v72 v73 v74 v75 v76 v77 v78 v79 v80 v81 v82 v83 v84 v85 v86 v87 v88 v89 v90 v91 v92 v93 v94 v95 v96 v97 v98 v99 v100 v101 v102 v103 v104 v105 : Value}
    (hJ : ∀ a' w', (∃ u0 u1 u12 u13 u14 u15 u16 u17 u18 u19 u20 u21 u22 u23 u24 u25 u26 u27 u28 u29 u30 u31 u32 u33 u34 u35 u36 u37 u38 u39 u40 u41 u42 u43 u44 u45 u46 u47 u48 u49 u50 u51 u52 u53 u54 u55 u56 u57 u58 u59 u60 u61 u62 u63 u64 u65 u66 u67 u68 u69 u70 u71 u72 u73 u74 u75 u76 u77 u78 u79 u80 u81 u82 u83 u84 u85 u86 u87 u88 u89 u90 u91 u92 u93 u94 u95 u96 u97 u98 u99 u100 u101 u102 u103 u104 : Value, Hid (GSPost W H E W1 w' u0 u1) ∧ a' = ⟨List.toArray (u0 :: u1 :: v2 :: v3 :: v4 :: v5 :: v6 :: v7 :: v8 :: v9 :: v10 :: .pointer (some ⟨E, 0, none⟩) :: u12 :: u13 :: u14 :: u15 :: u16 :: u17 :: u18 :: u19 :: u20 :: u21 :: u22 :: u23 :: u24 :: u25 :: u26 :: u27 :: u28 :: u29 :: u30 :: u31 :: u32 :: u33 :: u34 :: u35 :: u36 :: u37 :: u38 :: u39 :: u40 :: u41 :: u42 :: u43 :: u44 :: u45 :: u46 :: u47 :: u48 :: u49 :: u50 :: u51 :: u52 :: u53 :: u54 :: u55 :: u56 :: u57 :: u58 :: u59 :: u60 :: u61 :: u62 :: u63 :: u64 :: u65 :: u66 :: u67 :: u68 :: u69 :: u70 :: u71 :: u72 :: u73 :: u74 :: u75 :: u76 :: u77 :: u78 :: u79 :: u80 :: u81 :: u82 :: u83 :: u84 :: u85 :: u86 :: u87 :: u88 :: u89 :: u90 :: u91 :: u92 :: u93 :: u94 :: u95 :: u96 :: u97 :: u98 :: u99 :: u100 :: u101 :: u102 :: u103 :: u104 :: v105 :: []), []⟩) → J a' w') (hK : ∀ a' w', Met J a' w' → K' a' w')
    (HA : Hid (Arr W1 65 E [.int .i64 6, .int .i64 X, .int .i64 Y, .int .i64 CC, .int .i64 D, .slice SA sn sc])) (HI : Hid (i64In X ∧ i64In Y)) (hW : 0 < W) (hH : 0 < H) (hWl : W < 200) (hHl : H < 200) (HRD : Hid (Rd W1 SA sn (fun i => .bool (B i)))) (HSN : Hid (sn < 4294967296)) :
    Code.wp Try.prog swS (Exit.then K' Q') ⟨List.toArray (.int .i64 W :: .int .i64 H :: v2 :: v3 :: v4 :: v5 :: v6 :: v7 :: v8 :: v9 :: v10 :: .pointer (some ⟨E, 0, none⟩) :: v12 :: v13 :: v14 :: v15 :: v16 :: v17 :: v18 :: v19 :: v20 :: v21 :: v22 :: v23 :: v24 :: v25 :: v26 :: v27 :: v28 :: v29 :: v30 :: v31 :: v32 :: v33 :: v34 :: v35 :: v36 :: v37 :: v38 :: v39 :: v40 :: v41 :: v42 :: v43 :: v44 :: v45 :: v46 :: v47 :: v48 :: v49 :: v50 :: v51 :: v52 :: v53 :: v54 :: v55 :: v56 :: v57 :: v58 :: v59 :: v60 :: v61 :: v62 :: v63 :: v64 :: v65 :: v66 :: v67 :: v68 :: v69 :: v70 :: v71 :: v72 :: v73 :: v74 :: v75 :: v76 :: v77 :: v78 :: v79 :: v80 :: v81 :: v82 :: v83 :: v84 :: v85 :: v86 :: v87 :: v88 :: v89 :: v90 :: v91 :: v92 :: v93 :: v94 :: v95 :: v96 :: v97 :: v98 :: v99 :: v100 :: v101 :: v102 :: v103 :: v104 :: v105 :: []), []⟩ W1 := by
  have a0 := HA.out.cell? 0
  have a1 := HA.out.cell? 1
  have a2 := HA.out.cell? 2
  have a3 := HA.out.cell? 3
  have a4 := HA.out.cell? 4
  have a5 := HA.out.cell? 5
  simp only [List.getElem?_cons_zero, List.getElem?_cons_succ] at a0 a1 a2 a3 a4 a5
  unfold swS bodyS
  dsimp only [cL, cR, cB, Try.f14, Option.getD]
  have HPOST : Hid (GSPost W H E W1 W1 (.int .i64 W) (.int .i64 H)) := Lib.hid ⟨⟨6, X, Y, CC, D, SA, sn, sc, B⟩, .inr (.inr (.inr (.inl rfl))), by simp, by simp, HA.out, by simp, Mod.refl _⟩
  go_wp2_with fail
  refine Met.intro ?_
  go_step
  refine And.left (b := True) ?_
  go_big_round
  exact ⟨HPOST, trivial⟩
set_option maxRecDepth 100000 in
set_option maxHeartbeats 6400000 in
theorem gs7 {J K' : Act → World → Prop} {Q' : Exit → Act → World → Prop} {W1 : World} {E W H : Nat} {X Y CC D : Int} {SA : Option Addr} {sn sc : Nat} {B : Nat → Bool}
    {v2 v3 v4 v5 v6 v7 v8 v9 v10 v12 v13 v14 v15 v16 v17 v18 v19 v20 v21 v22 v23 v24 v25 v26 v27 v28 v29 v30 v31 v32 v33 v34 v35 v36 v37 v38 v39 v40 v41 v42 v43 v44 v45 v46 v47 v48 v49 v50 v51 v52 v53 v54 v55 v56 v57 v58 v59 v60 v61 v62 v63 v64 v65 v66 v67 v68 v69 v70 v71 v72 v73 v74 v75 v76 v77 v78 v79 v80 v81 v82 v83 v84 v85 v86 v87 v88 v89 v90 v91 v92 v93 v94 v95 v96 v97 v98 v99 v100 v101 v102 v103 v104 v105 : Value}
    (hJ : ∀ a' w', (∃ u0 u1 u12 u13 u14 u15 u16 u17 u18 u19 u20 u21 u22 u23 u24 u25 u26 u27 u28 u29 u30 u31 u32 u33 u34 u35 u36 u37 u38 u39 u40 u41 u42 u43 u44 u45 u46 u47 u48 u49 u50 u51 u52 u53 u54 u55 u56 u57 u58 u59 u60 u61 u62 u63 u64 u65 u66 u67 u68 u69 u70 u71 u72 u73 u74 u75 u76 u77 u78 u79 u80 u81 u82 u83 u84 u85 u86 u87 u88 u89 u90 u91 u92 u93 u94 u95 u96 u97 u98 u99 u100 u101 u102 u103 u104 : Value, Hid (GSPost W H E W1 w' u0 u1) ∧ a' = ⟨List.toArray (u0 :: u1 :: v2 :: v3 :: v4 :: v5 :: v6 :: v7 :: v8 :: v9 :: v10 :: .pointer (some ⟨E, 0, none⟩) :: u12 :: u13 :: u14 :: u15 :: u16 :: u17 :: u18 :: u19 :: u20 :: u21 :: u22 :: u23 :: u24 :: u25 :: u26 :: u27 :: u28 :: u29 :: u30 :: u31 :: u32 :: u33 :: u34 :: u35 :: u36 :: u37 :: u38 :: u39 :: u40 :: u41 :: u42 :: u43 :: u44 :: u45 :: u46 :: u47 :: u48 :: u49 :: u50 :: u51 :: u52 :: u53 :: u54 :: u55 :: u56 :: u57 :: u58 :: u59 :: u60 :: u61 :: u62 :: u63 :: u64 :: u65 :: u66 :: u67 :: u68 :: u69 :: u70 :: u71 :: u72 :: u73 :: u74 :: u75 :: u76 :: u77 :: u78 :: u79 :: u80 :: u81 :: u82 :: u83 :: u84 :: u85 :: u86 :: u87 :: u88 :: u89 :: u90 :: u91 :: u92 :: u93 :: u94 :: u95 :: u96 :: u97 :: u98 :: u99 :: u100 :: u101 :: u102 :: u103 :: u104 :: v105 :: []), []⟩) → J a' w') (hK : ∀ a' w', Met J a' w' → K' a' w')
    (HA : Hid (Arr W1 65 E [.int .i64 7, .int .i64 X, .int .i64 Y, .int .i64 CC, .int .i64 D, .slice SA sn sc])) (HI : Hid (i64In X ∧ i64In Y)) (hW : 0 < W) (hH : 0 < H) (hWl : W < 200) (hHl : H < 200) (HRD : Hid (Rd W1 SA sn (fun i => .bool (B i)))) (HSN : Hid (sn < 4294967296)) (hw : W % 32 ≠ 0) :
    Code.wp Try.prog swS (Exit.then K' Q') ⟨List.toArray (.int .i64 W :: .int .i64 H :: v2 :: v3 :: v4 :: v5 :: v6 :: v7 :: v8 :: v9 :: v10 :: .pointer (some ⟨E, 0, none⟩) :: v12 :: v13 :: v14 :: v15 :: v16 :: v17 :: v18 :: v19 :: v20 :: v21 :: v22 :: v23 :: v24 :: v25 :: v26 :: v27 :: v28 :: v29 :: v30 :: v31 :: v32 :: v33 :: v34 :: v35 :: v36 :: v37 :: v38 :: v39 :: v40 :: v41 :: v42 :: v43 :: v44 :: v45 :: v46 :: v47 :: v48 :: v49 :: v50 :: v51 :: v52 :: v53 :: v54 :: v55 :: v56 :: v57 :: v58 :: v59 :: v60 :: v61 :: v62 :: v63 :: v64 :: v65 :: v66 :: v67 :: v68 :: v69 :: v70 :: v71 :: v72 :: v73 :: v74 :: v75 :: v76 :: v77 :: v78 :: v79 :: v80 :: v81 :: v82 :: v83 :: v84 :: v85 :: v86 :: v87 :: v88 :: v89 :: v90 :: v91 :: v92 :: v93 :: v94 :: v95 :: v96 :: v97 :: v98 :: v99 :: v100 :: v101 :: v102 :: v103 :: v104 :: v105 :: []), []⟩ W1 := by
  have a0 := HA.out.cell? 0
  have a1 := HA.out.cell? 1
  have a2 := HA.out.cell? 2
  have a3 := HA.out.cell? 3
  have a4 := HA.out.cell? 4
  have a5 := HA.out.cell? 5
  simp only [List.getElem?_cons_zero, List.getElem?_cons_succ] at a0 a1 a2 a3 a4 a5
  unfold swS bodyS
  dsimp only [cL, cR, cB, Try.f14, Option.getD]
  obtain ⟨t, ht⟩ : ∃ t, t = W % 32 := ⟨_, rfl⟩
  have et : (W : Int) % 32 = (t : Int) := by omega
  have et2 : (W : Int).tmod 32 = (t : Int) := by rw [Int.tmod_eq_emod_of_nonneg (by omega)]; exact et
  have nt : ¬ (t : Int) = 0 := by omega
  have nt' : ¬ t = 0 := by omega
  have HPOST : Hid (GSPost W H E W1 W1 (.int .i64 W) (.int .i64 H)) := Lib.hid ⟨⟨7, X, Y, CC, D, SA, sn, sc, B⟩, .inr (.inr (.inr (.inr (.inl ⟨rfl, hw⟩)))), by simp, by simp, HA.out, by simp, Mod.refl _⟩
  clear ht hw
  go_wp2_with fail
  refine Met.intro ?_
  go_step
  refine And.left (b := True) ?_
  go_big_round
  exact ⟨HPOST, trivial⟩
set_option maxRecDepth 100000 in
set_option maxHeartbeats 6400000 in
theorem gs8 {J K' : Act → World → Prop} {Q' : Exit → Act → World → Prop} {W1 : World} {E W H : Nat} {X Y CC D : Int} {SA : Option Addr} {sn sc : Nat} {B : Nat → Bool}
    {v2 v3 v4 v5 v6 v7 v8 v9 v10 v12 v13 v14 v15 v16 v17 v18 v19 v20 v21 v22 v23 v24 v25 v26 v27 v28 v29 v30 v31 v32 v33 v34 v35 v36 v37 v38 v39 v40 v41 v42 v43 v44 v45 v46 v47 v48 v49 v50 v51 v52 v53 v54 v55 v56 v57 v58 v59 v60 v61 v62 v63 v64 v65 v66 v67 v68 v69 v70 v71 v72 v73 v74 v75 v76 v77 v78 v79 v80 v81 v82 v83 v84 v85 v86 v87 v88 v89 v90 v91 v92 v93 v94 v95 v96 v97 v98 v99 v100 v101 v102 v103 v104 v105 : Value}
    (hJ : ∀ a' w', (∃ u0 u1 u12 u13 u14 u15 u16 u17 u18 u19 u20 u21 u22 u23 u24 u25 u26 u27 u28 u29 u30 u31 u32 u33 u34 u35 u36 u37 u38 u39 u40 u41 u42 u43 u44 u45 u46 u47 u48 u49 u50 u51 u52 u53 u54 u55 u56 u57 u58 u59 u60 u61 u62 u63 u64 u65 u66 u67 u68 u69 u70 u71 u72 u73 u74 u75 u76 u77 u78 u79 u80 u81 u82 u83 u84 u85 u86 u87 u88 u89 u90 u91 u92 u93 u94 u95 u96 u97 u98 u99 u100 u101 u102 u103 u104 : Value, Hid (GSPost W H E W1 w' u0 u1) ∧ a' = ⟨List.toArray (u0 :: u1 :: v2 :: v3 :: v4 :: v5 :: v6 :: v7 :: v8 :: v9 :: v10 :: .pointer (some ⟨E, 0, none⟩) :: u12 :: u13 :: u14 :: u15 :: u16 :: u17 :: u18 :: u19 :: u20 :: u21 :: u22 :: u23 :: u24 :: u25 :: u26 :: u27 :: u28 :: u29 :: u30 :: u31 :: u32 :: u33 :: u34 :: u35 :: u36 :: u37 :: u38 :: u39 :: u40 :: u41 :: u42 :: u43 :: u44 :: u45 :: u46 :: u47 :: u48 :: u49 :: u50 :: u51 :: u52 :: u53 :: u54 :: u55 :: u56 :: u57 :: u58 :: u59 :: u60 :: u61 :: u62 :: u63 :: u64 :: u65 :: u66 :: u67 :: u68 :: u69 :: u70 :: u71 :: u72 :: u73 :: u74 :: u75 :: u76 :: u77 :: u78 :: u79 :: u80 :: u81 :: u82 :: u83 :: u84 :: u85 :: u86 :: u87 :: u88 :: u89 :: u90 :: u91 :: u92 :: u93 :: u94 :: u95 :: u96 :: u97 :: u98 :: u99 :: u100 :: u101 :: u102 :: u103 :: u104 :: v105 :: []), []⟩) → J a' w') (hK : ∀ a' w', Met J a' w' → K' a' w')
    (HA : Hid (Arr W1 65 E [.int .i64 8, .int .i64 X, .int .i64 Y, .int .i64 CC, .int .i64 D, .slice SA sn sc])) (HI : Hid (i64In X ∧ i64In Y)) (hW : 0 < W) (hH : 0 < H) (hWl : W < 200) (hHl : H < 200) (HRD : Hid (Rd W1 SA sn (fun i => .bool (B i)))) (HSN : Hid (sn < 4294967296)) :
    Code.wp Try.prog swS (Exit.then K' Q') ⟨List.toArray (.int .i64 W :: .int .i64 H :: v2 :: v3 :: v4 :: v5 :: v6 :: v7 :: v8 :: v9 :: v10 :: .pointer (some ⟨E, 0, none⟩) :: v12 :: v13 :: v14 :: v15 :: v16 :: v17 :: v18 :: v19 :: v20 :: v21 :: v22 :: v23 :: v24 :: v25 :: v26 :: v27 :: v28 :: v29 :: v30 :: v31 :: v32 :: v33 :: v34 :: v35 :: v36 :: v37 :: v38 :: v39 :: v40 :: v41 :: v42 :: v43 :: v44 :: v45 :: v46 :: v47 :: v48 :: v49 :: v50 :: v51 :: v52 :: v53 :: v54 :: v55 :: v56 :: v57 :: v58 :: v59 :: v60 :: v61 :: v62 :: v63 :: v64 :: v65 :: v66 :: v67 :: v68 :: v69 :: v70 :: v71 :: v72 :: v73 :: v74 :: v75 :: v76 :: v77 :: v78 :: v79 :: v80 :: v81 :: v82 :: v83 :: v84 :: v85 :: v86 :: v87 :: v88 :: v89 :: v90 :: v91 :: v92 :: v93 :: v94 :: v95 :: v96 :: v97 :: v98 :: v99 :: v100 :: v101 :: v102 :: v103 :: v104 :: v105 :: []), []⟩ W1 := by
  have a0 := HA.out.cell? 0
  have a1 := HA.out.cell? 1
  have a2 := HA.out.cell? 2
  have a3 := HA.out.cell? 3
  have a4 := HA.out.cell? 4
  have a5 := HA.out.cell? 5
  simp only [List.getElem?_cons_zero, List.getElem?_cons_succ] at a0 a1 a2 a3 a4 a5
  unfold swS bodyS
  dsimp only [cL, cR, cB, Try.f14, Option.getD]
  have HPOST : Hid (GSPost W H E W1 W1 (.int .i64 H) (.int .i64 W)) := Lib.hid ⟨⟨8, X, Y, CC, D, SA, sn, sc, B⟩, .inr (.inr (.inr (.inr (.inr (.inl rfl))))), by simp, by simp, HA.out, by simp, Mod.refl _⟩
  go_wp2_with fail
  refine Met.intro ?_
  go_step
  refine And.left (b := True) ?_
  go_big_round
  exact ⟨HPOST, trivial⟩
set_option maxRecDepth 100000 in
set_option maxHeartbeats 6400000 in
theorem gs9 {J K' : Act → World → Prop} {Q' : Exit → Act → World → Prop} {W1 : World} {E W H : Nat} {X Y CC D : Int} {SA : Option Addr} {sn sc : Nat} {B : Nat → Bool}
    {v2 v3 v4 v5 v6 v7 v8 v9 v10 v12 v13 v14 v15 v16 v17 v18 v19 v20 v21 v22 v23 v24 v25 v26 v27 v28 v29 v30 v31 v32 v33 v34 v35 v36 v37 v38 v39 v40 v41 v42 v43 v44 v45 v46 v47 v48 v49 v50 v51 v52 v53 v54 v55 v56 v57 v58 v59 v60 v61 v62 v63 v64 v65 v66 v67 v68 v69 v70 v71 v72 v73 v74 v75 v76 v77 v78 v79 v80 v81 v82 v83 v84 v85 v86 v87 v88 v89 v90 v91 v92 v93 v94 v95 v96 v97 v98 v99 v100 v101 v102 v103 v104 v105 : Value}
    (hJ : ∀ a' w', (∃ u0 u1 u12 u13 u14 u15 u16 u17 u18 u19 u20 u21 u22 u23 u24 u25 u26 u27 u28 u29 u30 u31 u32 u33 u34 u35 u36 u37 u38 u39 u40 u41 u42 u43 u44 u45 u46 u47 u48 u49 u50 u51 u52 u53 u54 u55 u56 u57 u58 u59 u60 u61 u62 u63 u64 u65 u66 u67 u68 u69 u70 u71 u72 u73 u74 u75 u76 u77 u78 u79 u80 u81 u82 u83 u84 u85 u86 u87 u88 u89 u90 u91 u92 u93 u94 u95 u96 u97 u98 u99 u100 u101 u102 u103 u104 : Value, Hid (GSPost W H E W1 w' u0 u1) ∧ a' = ⟨List.toArray (u0 :: u1 :: v2 :: v3 :: v4 :: v5 :: v6 :: v7 :: v8 :: v9 :: v10 :: .pointer (some ⟨E, 0, none⟩) :: u12 :: u13 :: u14 :: u15 :: u16 :: u17 :: u18 :: u19 :: u20 :: u21 :: u22 :: u23 :: u24 :: u25 :: u26 :: u27 :: u28 :: u29 :: u30 :: u31 :: u32 :: u33 :: u34 :: u35 :: u36 :: u37 :: u38 :: u39 :: u40 :: u41 :: u42 :: u43 :: u44 :: u45 :: u46 :: u47 :: u48 :: u49 :: u50 :: u51 :: u52 :: u53 :: u54 :: u55 :: u56 :: u57 :: u58 :: u59 :: u60 :: u61 :: u62 :: u63 :: u64 :: u65 :: u66 :: u67 :: u68 :: u69 :: u70 :: u71 :: u72 :: u73 :: u74 :: u75 :: u76 :: u77 :: u78 :: u79 :: u80 :: u81 :: u82 :: u83 :: u84 :: u85 :: u86 :: u87 :: u88 :: u89 :: u90 :: u91 :: u92 :: u93 :: u94 :: u95 :: u96 :: u97 :: u98 :: u99 :: u100 :: u101 :: u102 :: u103 :: u104 :: v105 :: []), []⟩) → J a' w') (hK : ∀ a' w', Met J a' w' → K' a' w')
    (HA : Hid (Arr W1 65 E [.int .i64 9, .int .i64 X, .int .i64 Y, .int .i64 CC, .int .i64 D, .slice SA sn sc])) (HI : Hid (i64In X ∧ i64In Y)) (hW : 0 < W) (hH : 0 < H) (hWl : W < 200) (hHl : H < 200) (HRD : Hid (Rd W1 SA sn (fun i => .bool (B i)))) (HSN : Hid (sn < 4294967296)) (HSE : Hid (∀ a, SA = some a → 0 < sn → ¬ a.block = E)) :
    Code.wp Try.prog swS (Exit.then K' Q') ⟨List.toArray (.int .i64 W :: .int .i64 H :: v2 :: v3 :: v4 :: v5 :: v6 :: v7 :: v8 :: v9 :: v10 :: .pointer (some ⟨E, 0, none⟩) :: v12 :: v13 :: v14 :: v15 :: v16 :: v17 :: v18 :: v19 :: v20 :: v21 :: v22 :: v23 :: v24 :: v25 :: v26 :: v27 :: v28 :: v29 :: v30 :: v31 :: v32 :: v33 :: v34 :: v35 :: v36 :: v37 :: v38 :: v39 :: v40 :: v41 :: v42 :: v43 :: v44 :: v45 :: v46 :: v47 :: v48 :: v49 :: v50 :: v51 :: v52 :: v53 :: v54 :: v55 :: v56 :: v57 :: v58 :: v59 :: v60 :: v61 :: v62 :: v63 :: v64 :: v65 :: v66 :: v67 :: v68 :: v69 :: v70 :: v71 :: v72 :: v73 :: v74 :: v75 :: v76 :: v77 :: v78 :: v79 :: v80 :: v81 :: v82 :: v83 :: v84 :: v85 :: v86 :: v87 :: v88 :: v89 :: v90 :: v91 :: v92 :: v93 :: v94 :: v95 :: v96 :: v97 :: v98 :: v99 :: v100 :: v101 :: v102 :: v103 :: v104 :: v105 :: []), []⟩ W1 := by
  have a0 := HA.out.cell? 0
  have a1 := HA.out.cell? 1
  have a2 := HA.out.cell? 2
  have a3 := HA.out.cell? 3
  have a4 := HA.out.cell? 4
  have a5 := HA.out.cell? 5
  simp only [List.getElem?_cons_zero, List.getElem?_cons_succ] at a0 a1 a2 a3 a4 a5
  unfold swS bodyS
  dsimp only [cL, cR, cB, Try.f14, Option.getD]
  have HRY := rsSize H ⟨hH, by omega⟩ Y HI.out.2.1 HI.out.2.2
  unfold szv at HRY
  have HRY := Lib.hid HRY
  have HFI := Lib.hid (fun w h => biFits W hW hWl B SA sn sc HSN.out w h)
  have hE := HA.out.lt
  have f2 := HA.out.free 2
  go_wp2_with fail
  refine (HRY.out _).mono ?_
  rintro e w3 ⟨y, rfl, hy, hb3⟩
  have HB3 := Lib.hid hb3
  have hA3 := HA.out.mod (Mod.of_below (S := fun _ => False) hb3) (fun h => h)
  have d2 := hA3.cell? 2
  simp only [List.getElem?_cons_zero, List.getElem?_cons_succ] at d2
  have g2 := hA3.free 2
  have hA4 := hA3.set_ 2 (.int .i64 (y : Nat))
  simp only [List.set_cons_succ, List.set_cons_zero] at hA4
  have HA4 := Lib.hid hA4
  have d5 := hA4.cell? 5
  simp only [List.getElem?_cons_zero, List.getElem?_cons_succ] at d5
  have HB4 := Lib.hid ((Mod.of_below (S := fun q => q = E) hb3).setCell (p := ⟨E, 2, none⟩) (.inl rfl) (.int .i64 (y : Nat)))
  have HR4 : Hid (Rd (w3.setCell ⟨E, 2, none⟩ (.int .i64 (y : Nat))) SA sn (fun i => .bool (B i))) := Lib.hid (HB4.out.rd HRD.out (fun a ha h0 => HSE.out a ha h0))
  have hsz : (w3.setCell ⟨E, 2, none⟩ (.int .i64 (y : Nat))).heap.size = w3.heap.size := by rw [World.size_setCell]
  have HSZ := Lib.hid hsz
  clear hb3 hA3 hA4 a0 a1 a2 a3 a4 a5 f2 hsz
  go_wp2_with fail
  obtain ⟨w4, hw4⟩ : ∃ w4, w4 = w3.setCell ⟨E, 2, none⟩ (.int .i64 (y : Nat)) := ⟨_, rfl⟩
  rw [← hw4] at HA4 HB4 HR4 HSZ d5 ⊢
  clear hw4 d2 g2
  refine (HFI.out _ HR4.out).mono ?_
  rintro e w5 ⟨b, c5, rfl, hbl, hrd, hb5⟩
  have HB5 := Lib.hid hb5
  have hA5 := HA4.out.mod (Mod.of_below (S := fun _ => False) hb5) (fun h => h)
  have d5' := hA5.cell? 5
  simp only [List.getElem?_cons_zero, List.getElem?_cons_succ] at d5'
  have g5 := hA5.free 5
  have hA6 := hA5.set_ 5 (.slice (some ⟨b, 0, none⟩) W c5)
  simp only [List.set_cons_succ, List.set_cons_zero] at hA6
  have HPOST : Hid (GSPost W H E W1 (w5.setCell ⟨E, 5, none⟩ (.slice (some ⟨b, 0, none⟩) W c5)) (.int .i64 W) (.int .i64 H)) := Lib.hid ⟨⟨9, X, (y : Int), CC, D, some ⟨b, 0, none⟩, W, c5, fitB B sn W 0⟩, .inr (.inr (.inr (.inr (.inr (.inr ⟨by simp, (show (0 : Int) ≤ (y : Int) by omega), (show (y : Int) < (H : Int) by omega), rfl⟩))))), by simp, by simp, hA6, fun _ => ⟨b, rfl, by have := HB4.out.size; omega, by
    obtain ⟨b9, o9, e9, hb9, _⟩ := hrd.out hW
    injection e9 with e9
    injection e9 with e9 _ _
    rw [World.size_setCell, e9]; exact hb9, fun i hi => by
    obtain ⟨b9, o9, e9, hb9, hc9⟩ := hrd.out hW
    injection e9 with e9
    injection e9 with e9 e10 _
    subst e9 e10
    have := hc9 i hi
    rw [Nat.zero_add] at this
    rw [World.cell?_setCell_other _ _ _ _ (fun e2 => by injection e2 with e3 _ _; have h1 := HA4.out.lt; omega)]
    exact this⟩, (HB4.out.trans (Mod.of_below hb5)).setCell (p := ⟨E, 5, none⟩) (.inl rfl) _⟩
  clear hbl hrd hb5 hA5 hA6 d5
  go_wp2_with fail
  refine Met.intro ?_
  go_step
  refine And.left (b := True) ?_
  go_big_round
  exact ⟨HPOST, trivial⟩
set_option maxRecDepth 100000 in
set_option maxHeartbeats 6400000 in
theorem gs10 {J K' : Act → World → Prop} {Q' : Exit → Act → World → Prop} {W1 : World} {E W H : Nat} {X Y CC D : Int} {SA : Option Addr} {sn sc : Nat} {B : Nat → Bool}
    {v2 v3 v4 v5 v6 v7 v8 v9 v10 v12 v13 v14 v15 v16 v17 v18 v19 v20 v21 v22 v23 v24 v25 v26 v27 v28 v29 v30 v31 v32 v33 v34 v35 v36 v37 v38 v39 v40 v41 v42 v43 v44 v45 v46 v47 v48 v49 v50 v51 v52 v53 v54 v55 v56 v57 v58 v59 v60 v61 v62 v63 v64 v65 v66 v67 v68 v69 v70 v71 v72 v73 v74 v75 v76 v77 v78 v79 v80 v81 v82 v83 v84 v85 v86 v87 v88 v89 v90 v91 v92 v93 v94 v95 v96 v97 v98 v99 v100 v101 v102 v103 v104 v105 : Value}
    (hJ : ∀ a' w', (∃ u0 u1 u12 u13 u14 u15 u16 u17 u18 u19 u20 u21 u22 u23 u24 u25 u26 u27 u28 u29 u30 u31 u32 u33 u34 u35 u36 u37 u38 u39 u40 u41 u42 u43 u44 u45 u46 u47 u48 u49 u50 u51 u52 u53 u54 u55 u56 u57 u58 u59 u60 u61 u62 u63 u64 u65 u66 u67 u68 u69 u70 u71 u72 u73 u74 u75 u76 u77 u78 u79 u80 u81 u82 u83 u84 u85 u86 u87 u88 u89 u90 u91 u92 u93 u94 u95 u96 u97 u98 u99 u100 u101 u102 u103 u104 : Value, Hid (GSPost W H E W1 w' u0 u1) ∧ a' = ⟨List.toArray (u0 :: u1 :: v2 :: v3 :: v4 :: v5 :: v6 :: v7 :: v8 :: v9 :: v10 :: .pointer (some ⟨E, 0, none⟩) :: u12 :: u13 :: u14 :: u15 :: u16 :: u17 :: u18 :: u19 :: u20 :: u21 :: u22 :: u23 :: u24 :: u25 :: u26 :: u27 :: u28 :: u29 :: u30 :: u31 :: u32 :: u33 :: u34 :: u35 :: u36 :: u37 :: u38 :: u39 :: u40 :: u41 :: u42 :: u43 :: u44 :: u45 :: u46 :: u47 :: u48 :: u49 :: u50 :: u51 :: u52 :: u53 :: u54 :: u55 :: u56 :: u57 :: u58 :: u59 :: u60 :: u61 :: u62 :: u63 :: u64 :: u65 :: u66 :: u67 :: u68 :: u69 :: u70 :: u71 :: u72 :: u73 :: u74 :: u75 :: u76 :: u77 :: u78 :: u79 :: u80 :: u81 :: u82 :: u83 :: u84 :: u85 :: u86 :: u87 :: u88 :: u89 :: u90 :: u91 :: u92 :: u93 :: u94 :: u95 :: u96 :: u97 :: u98 :: u99 :: u100 :: u101 :: u102 :: u103 :: u104 :: v105 :: []), []⟩) → J a' w') (hK : ∀ a' w', Met J a' w' → K' a' w')
    (HA : Hid (Arr W1 65 E [.int .i64 10, .int .i64 X, .int .i64 Y, .int .i64 CC, .int .i64 D, .slice SA sn sc])) (HI : Hid (i64In X ∧ i64In Y)) (hW : 0 < W) (hH : 0 < H) (hWl : W < 200) (hHl : H < 200) (HRD : Hid (Rd W1 SA sn (fun i => .bool (B i)))) (HSN : Hid (sn < 4294967296)) (HSE : Hid (∀ a, SA = some a → 0 < sn → ¬ a.block = E)) :
    Code.wp Try.prog swS (Exit.then K' Q') ⟨List.toArray (.int .i64 W :: .int .i64 H :: v2 :: v3 :: v4 :: v5 :: v6 :: v7 :: v8 :: v9 :: v10 :: .pointer (some ⟨E, 0, none⟩) :: v12 :: v13 :: v14 :: v15 :: v16 :: v17 :: v18 :: v19 :: v20 :: v21 :: v22 :: v23 :: v24 :: v25 :: v26 :: v27 :: v28 :: v29 :: v30 :: v31 :: v32 :: v33 :: v34 :: v35 :: v36 :: v37 :: v38 :: v39 :: v40 :: v41 :: v42 :: v43 :: v44 :: v45 :: v46 :: v47 :: v48 :: v49 :: v50 :: v51 :: v52 :: v53 :: v54 :: v55 :: v56 :: v57 :: v58 :: v59 :: v60 :: v61 :: v62 :: v63 :: v64 :: v65 :: v66 :: v67 :: v68 :: v69 :: v70 :: v71 :: v72 :: v73 :: v74 :: v75 :: v76 :: v77 :: v78 :: v79 :: v80 :: v81 :: v82 :: v83 :: v84 :: v85 :: v86 :: v87 :: v88 :: v89 :: v90 :: v91 :: v92 :: v93 :: v94 :: v95 :: v96 :: v97 :: v98 :: v99 :: v100 :: v101 :: v102 :: v103 :: v104 :: v105 :: []), []⟩ W1 := by
  have a0 := HA.out.cell? 0
  have a1 := HA.out.cell? 1
  have a2 := HA.out.cell? 2
  have a3 := HA.out.cell? 3
  have a4 := HA.out.cell? 4
  have a5 := HA.out.cell? 5
  simp only [List.getElem?_cons_zero, List.getElem?_cons_succ] at a0 a1 a2 a3 a4 a5
  unfold swS bodyS
  dsimp only [cL, cR, cB, Try.f14, Option.getD]
  have HRY := rsSize H ⟨hH, by omega⟩ Y HI.out.2.1 HI.out.2.2
  unfold szv at HRY
  have HRY := Lib.hid HRY
  have HFI := Lib.hid (fun w h => biFits W hW hWl B SA sn sc HSN.out w h)
  have hE := HA.out.lt
  have f2 := HA.out.free 2
  go_wp2_with fail
  refine (HRY.out _).mono ?_
  rintro e w3 ⟨y, rfl, hy, hb3⟩
  have HB3 := Lib.hid hb3
  have hA3 := HA.out.mod (Mod.of_below (S := fun _ => False) hb3) (fun h => h)
  have d2 := hA3.cell? 2
  simp only [List.getElem?_cons_zero, List.getElem?_cons_succ] at d2
  have g2 := hA3.free 2
  have hA4 := hA3.set_ 2 (.int .i64 (y : Nat))
  simp only [List.set_cons_succ, List.set_cons_zero] at hA4
  have HA4 := Lib.hid hA4
  have d5 := hA4.cell? 5
  simp only [List.getElem?_cons_zero, List.getElem?_cons_succ] at d5
  have HB4 := Lib.hid ((Mod.of_below (S := fun q => q = E) hb3).setCell (p := ⟨E, 2, none⟩) (.inl rfl) (.int .i64 (y : Nat)))
  have HR4 : Hid (Rd (w3.setCell ⟨E, 2, none⟩ (.int .i64 (y : Nat))) SA sn (fun i => .bool (B i))) := Lib.hid (HB4.out.rd HRD.out (fun a ha h0 => HSE.out a ha h0))
  have hsz : (w3.setCell ⟨E, 2, none⟩ (.int .i64 (y : Nat))).heap.size = w3.heap.size := by rw [World.size_setCell]
  have HSZ := Lib.hid hsz
  clear hb3 hA3 hA4 a0 a1 a2 a3 a4 a5 f2 hsz
  go_wp2_with fail
  obtain ⟨w4, hw4⟩ : ∃ w4, w4 = w3.setCell ⟨E, 2, none⟩ (.int .i64 (y : Nat)) := ⟨_, rfl⟩
  rw [← hw4] at HA4 HB4 HR4 HSZ d5 ⊢
  clear hw4 d2 g2
  refine (HFI.out _ HR4.out).mono ?_
  rintro e w5 ⟨b, c5, rfl, hbl, hrd, hb5⟩
  have HB5 := Lib.hid hb5
  have hA5 := HA4.out.mod (Mod.of_below (S := fun _ => False) hb5) (fun h => h)
  have d5' := hA5.cell? 5
  simp only [List.getElem?_cons_zero, List.getElem?_cons_succ] at d5'
  have g5 := hA5.free 5
  have hA6 := hA5.set_ 5 (.slice (some ⟨b, 0, none⟩) W c5)
  simp only [List.set_cons_succ, List.set_cons_zero] at hA6
  have HPOST : Hid (GSPost W H E W1 (w5.setCell ⟨E, 5, none⟩ (.slice (some ⟨b, 0, none⟩) W c5)) (.int .i64 W) (.int .i64 H)) := Lib.hid ⟨⟨10, X, (y : Int), CC, D, some ⟨b, 0, none⟩, W, c5, fitB B sn W 0⟩, .inr (.inr (.inr (.inr (.inr (.inr ⟨by simp, (show (0 : Int) ≤ (y : Int) by omega), (show (y : Int) < (H : Int) by omega), rfl⟩))))), by simp, by simp, hA6, fun _ => ⟨b, rfl, by have := HB4.out.size; omega, by
    obtain ⟨b9, o9, e9, hb9, _⟩ := hrd.out hW
    injection e9 with e9
    injection e9 with e9 _ _
    rw [World.size_setCell, e9]; exact hb9, fun i hi => by
    obtain ⟨b9, o9, e9, hb9, hc9⟩ := hrd.out hW
    injection e9 with e9
    injection e9 with e9 e10 _
    subst e9 e10
    have := hc9 i hi
    rw [Nat.zero_add] at this
    rw [World.cell?_setCell_other _ _ _ _ (fun e2 => by injection e2 with e3 _ _; have h1 := HA4.out.lt; omega)]
    exact this⟩, (HB4.out.trans (Mod.of_below hb5)).setCell (p := ⟨E, 5, none⟩) (.inl rfl) _⟩
  clear hbl hrd hb5 hA5 hA6 d5
  go_wp2_with fail
  refine Met.intro ?_
  go_step
  refine And.left (b := True) ?_
  go_big_round
  exact ⟨HPOST, trivial⟩
end Go.Proofs.Ytcfcbcjaiplllaa
