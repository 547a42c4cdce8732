/-
  The step 4 of spec.BIGrid, walked. No condition beyond the bounds that each theorem states.
-/
import Derived.Test.YtcfcbcjaiplllaaBGY0
import Derived.StillTailTactics
import Derived.BigQuiet
import Derived.Deep.CutRange
namespace Go.Proofs.Ytcfcbcjaiplllaa
open Go.RowKit Go.Qz
set_option linter.unusedVariables false

set_option maxRecDepth 100000 in
set_option maxHeartbeats 6400000 in
theorem sw4 {J K' : Act → World → Prop} {Q' : Exit → Act → World → Prop} {w W1 : World} {G E cG : Nat} {R C : Nat → Nat} {P : Pic} {s : Stp} {X Y CC D : Int} {SA : Option Addr} {sn sc : Nat}
    {v0 v1 v2 v3 v4 v5 v7 v8 v11 v12 v13 v14 v15 v16 v17 v18 v19 v20 v21 v22 v23 v24 v25 v26 v27 v28 v29 v30 v31 v32 v33 v34 v35 v36 v37 v38 v39 v40 v41 v42 v43 v44 v45 v46 v47 v48 v49 v50 v51 v52 v53 v54 v55 v56 v57 v58 v59 v60 v61 v62 v63 v64 v65 v66 v67 v68 v69 v70 v71 v72 v73 v74 v75 v76 v77 v78 v79 v80 v81 v82 v83 v84 v85 v86 v87 v88 v89 v90 v91 v92 v93 v94 v95 v96 v97 v98 v99 v100 v101 v102 v103 v104 v105 v106 v107 v108 v109 v110 v111 v112 v113 v114 v115 v116 v117 v118 v119 v120 v121 v122 v123 v124 v125 v126 v127 v128 v129 v130 v131 v132 v133 v134 v135 v136 v137 v138 v139 v140 v141 v142 v143 v144 v145 v146 v147 v148 v149 v150 v151 v152 v153 v154 v155 v156 v157 v158 v159 v160 v161 v162 v163 v164 v165 v166 v167 v168 v169 v170 v171 v172 v173 v174 v175 v176 v177 v178 v179 v180 v181 v182 v183 v184 v185 v186 v187 v188 v189 v190 v191 v192 v193 v194 v195 v196 v197 v198 v199 v200 v201 v202 v203 v204 v205 v206 v207 v208 v209 v210 v211 v212 v213 v214 v215 v216 v217 v218 v219 v220 v221 v222 v223 v224 v225 v226 v227 v228 v229 v230 v231 v232 v233 v234 v235 v236 v237 v238 v239 v240 : Value}
    (hJ : ∀ a' w', (∃ u6 u10 u11 u12 u13 u14 u15 u18 u19 u20 u21 u22 u23 u24 u25 u26 u27 u28 u29 u30 u31 u32 u33 u34 u35 u36 u37 u38 u39 u40 u41 u42 u43 u44 u45 u46 u47 u48 u49 u50 u51 u52 u53 u54 u55 u56 u57 u58 u59 u60 u61 u62 u63 u64 u65 u66 u67 u68 u69 u70 u71 u72 u73 u74 u75 u76 u77 u78 u79 u80 u81 u82 u83 u84 u85 u86 u87 u88 u89 u90 u91 u92 u93 u94 u95 u96 u97 u98 u99 u100 u101 u102 u103 u104 u105 u106 u107 u108 u109 u110 u111 u112 u113 u114 u115 u116 u117 u118 u119 u120 u121 u122 u123 u124 u125 u126 u127 u128 u129 u130 u131 u132 u133 u134 u135 u136 u137 u138 u139 u140 u141 u142 u143 u144 u145 u146 u147 u148 u149 u150 u151 u152 u153 u154 u155 u156 u157 u158 u159 u160 u161 u162 u163 u164 u165 u166 u167 u168 u169 u170 u171 u172 u173 u174 u175 u176 u177 u178 u179 u180 u181 u182 u183 u184 u185 u186 u187 u188 u189 u190 u191 u192 u193 u194 u195 u196 u197 u198 u199 u200 u201 u202 u203 u204 u205 u206 u207 u208 u209 u210 u211 u212 u213 u214 u215 u216 u217 u218 u219 u220 u221 u222 u223 u224 u225 u226 u227 u228 u229 u230 u231 u232 u233 u234 u235 u236 u237 u238 : Value, Hid (GPost w.heap.size G P.H R (s.run P) (s.told P) W1 w' u6 u10) ∧ a' = ⟨List.toArray (v0 :: v1 :: v2 :: v3 :: v4 :: v5 :: u6 :: v7 :: v8 :: .pointer (some ⟨E, 0, none⟩) :: u10 :: u11 :: u12 :: u13 :: u14 :: u15 :: v16 :: v17 :: u18 :: u19 :: u20 :: u21 :: u22 :: u23 :: u24 :: u25 :: u26 :: u27 :: u28 :: u29 :: u30 :: u31 :: u32 :: u33 :: u34 :: u35 :: u36 :: u37 :: u38 :: u39 :: u40 :: u41 :: u42 :: u43 :: u44 :: u45 :: u46 :: u47 :: u48 :: u49 :: u50 :: u51 :: u52 :: u53 :: u54 :: u55 :: u56 :: u57 :: u58 :: u59 :: u60 :: u61 :: u62 :: u63 :: u64 :: u65 :: u66 :: u67 :: u68 :: u69 :: u70 :: u71 :: u72 :: u73 :: u74 :: u75 :: u76 :: u77 :: u78 :: u79 :: u80 :: u81 :: u82 :: u83 :: u84 :: u85 :: u86 :: u87 :: u88 :: u89 :: u90 :: u91 :: u92 :: u93 :: u94 :: u95 :: u96 :: u97 :: u98 :: u99 :: u100 :: u101 :: u102 :: u103 :: u104 :: u105 :: u106 :: u107 :: u108 :: u109 :: u110 :: u111 :: u112 :: u113 :: u114 :: u115 :: u116 :: u117 :: u118 :: u119 :: u120 :: u121 :: u122 :: u123 :: u124 :: u125 :: u126 :: u127 :: u128 :: u129 :: u130 :: u131 :: u132 :: u133 :: u134 :: u135 :: u136 :: u137 :: u138 :: u139 :: u140 :: u141 :: u142 :: u143 :: u144 :: u145 :: u146 :: u147 :: u148 :: u149 :: u150 :: u151 :: u152 :: u153 :: u154 :: u155 :: u156 :: u157 :: u158 :: u159 :: u160 :: u161 :: u162 :: u163 :: u164 :: u165 :: u166 :: u167 :: u168 :: u169 :: u170 :: u171 :: u172 :: u173 :: u174 :: u175 :: u176 :: u177 :: u178 :: u179 :: u180 :: u181 :: u182 :: u183 :: u184 :: u185 :: u186 :: u187 :: u188 :: u189 :: u190 :: u191 :: u192 :: u193 :: u194 :: u195 :: u196 :: u197 :: u198 :: u199 :: u200 :: u201 :: u202 :: u203 :: u204 :: u205 :: u206 :: u207 :: u208 :: u209 :: u210 :: u211 :: u212 :: u213 :: u214 :: u215 :: u216 :: u217 :: u218 :: u219 :: u220 :: u221 :: u222 :: u223 :: u224 :: u225 :: u226 :: u227 :: u228 :: u229 :: u230 :: u231 :: u232 :: u233 :: u234 :: u235 :: u236 :: u237 :: u238 :: v239 :: v240 :: []), []⟩) → J a' w') (hK : ∀ a' w', Met J a' w' → K' a' w')
    (HOP : Hid (4 = s.op)) (HX : Hid (X = s.X)) (HY : Hid (Y = s.Y)) (HC : Hid (CC = s.C)) (HD : Hid (D = s.D))
    (HA : Hid (Arr W1 65 E [.int .i64 4, .int .i64 X, .int .i64 Y, .int .i64 CC, .int .i64 D, .slice SA sn sc]))
    (HWR1 : Hid (WR W1 w.heap.size G P.W (· < P.H) P.f R C)) (HBB : Hid (w.heap.size ≤ W1.heap.size)) (HGE : Hid (G < E ∧ ∀ r, r < P.H → R r < E)) (HL : Hid (Bnd P)) (HBE1 : Hid (Below w.heap.size w W1)) (hx : -1000 < X ∧ X < 1000) (hy : -1000 < Y ∧ Y < 1000) (hc : -1000 < CC ∧ CC < 1000) (hd : -1000 < D ∧ D < 1000) :
    Code.wp Try.prog swB (Exit.then K' Q') ⟨List.toArray (v0 :: v1 :: v2 :: v3 :: v4 :: v5 :: .slice (some ⟨G, 0, none⟩) P.H cG :: v7 :: v8 :: .pointer (some ⟨E, 0, none⟩) :: .bool true :: v11 :: v12 :: v13 :: v14 :: v15 :: v16 :: v17 :: v18 :: v19 :: v20 :: v21 :: v22 :: v23 :: v24 :: v25 :: v26 :: v27 :: v28 :: v29 :: v30 :: v31 :: v32 :: v33 :: v34 :: v35 :: v36 :: v37 :: v38 :: v39 :: v40 :: v41 :: v42 :: v43 :: v44 :: v45 :: v46 :: v47 :: v48 :: v49 :: v50 :: v51 :: v52 :: v53 :: v54 :: v55 :: v56 :: v57 :: v58 :: v59 :: v60 :: v61 :: v62 :: v63 :: v64 :: v65 :: v66 :: v67 :: v68 :: v69 :: v70 :: v71 :: v72 :: v73 :: v74 :: v75 :: v76 :: v77 :: v78 :: v79 :: v80 :: v81 :: v82 :: v83 :: v84 :: v85 :: v86 :: v87 :: v88 :: v89 :: v90 :: v91 :: v92 :: v93 :: v94 :: v95 :: v96 :: v97 :: v98 :: v99 :: v100 :: v101 :: v102 :: v103 :: v104 :: v105 :: v106 :: v107 :: v108 :: v109 :: v110 :: v111 :: v112 :: v113 :: v114 :: v115 :: v116 :: v117 :: v118 :: v119 :: v120 :: v121 :: v122 :: v123 :: v124 :: v125 :: v126 :: v127 :: v128 :: v129 :: v130 :: v131 :: v132 :: v133 :: v134 :: v135 :: v136 :: v137 :: v138 :: v139 :: v140 :: v141 :: v142 :: v143 :: v144 :: v145 :: v146 :: v147 :: v148 :: v149 :: v150 :: v151 :: v152 :: v153 :: v154 :: v155 :: v156 :: v157 :: v158 :: v159 :: v160 :: v161 :: v162 :: v163 :: v164 :: v165 :: v166 :: v167 :: v168 :: v169 :: v170 :: v171 :: v172 :: v173 :: v174 :: v175 :: v176 :: v177 :: v178 :: v179 :: v180 :: v181 :: v182 :: v183 :: v184 :: v185 :: v186 :: v187 :: v188 :: v189 :: v190 :: v191 :: v192 :: v193 :: v194 :: v195 :: v196 :: v197 :: v198 :: v199 :: v200 :: v201 :: v202 :: v203 :: v204 :: v205 :: v206 :: v207 :: v208 :: v209 :: v210 :: v211 :: v212 :: v213 :: v214 :: v215 :: v216 :: v217 :: v218 :: v219 :: v220 :: v221 :: v222 :: v223 :: v224 :: v225 :: v226 :: v227 :: v228 :: v229 :: v230 :: v231 :: v232 :: v233 :: v234 :: v235 :: v236 :: v237 :: v238 :: v239 :: v240 :: []), []⟩ W1 := by
  have a0 := HA.out.cell? 0
  have a1 := HA.out.cell? 1
  have a2 := HA.out.cell? 2
  have a3 := HA.out.cell? 3
  have a4 := HA.out.cell? 4
  have a5 := HA.out.cell? 5
  simp only [List.getElem?_cons_zero, List.getElem?_cons_succ] at a0 a1 a2 a3 a4 a5
  unfold swB bodyB
  dsimp only [cL, cR, cB, Try.f16, Option.getD]
  have d0 := HWR1.out.head 0 HL.out.h0
  have hb0 := HWR1.out.glt
  have hp1 : (0 : Int) < (P.H : Int) := by have := HL.out.h0; omega
  have hPWl := HL.out.wl
  have hPHl := HL.out.hl
  have hw1 : IntKind.i64.wrap (X + CC) = X + CC := by rw [IntKind.wrap_i64]; omega
  have hw2 : IntKind.i64.wrap (Y + D) = Y + D := by rw [IntKind.wrap_i64]; omega
  obtain ⟨rb0, hrb0⟩ : ∃ rb, rb = R 0 := ⟨_, rfl⟩
  rw [← hrb0] at d0
  clear hrb0
  obtain ⟨is, his⟩ : ∃ is, is = s.isReg P := ⟨_, rfl⟩
  have hreg := his
  unfold Stp.isReg at hreg
  rw [← HX.out, ← HY.out, ← HC.out, ← HD.out] at hreg
  have HIS := Lib.hid his
  have HREG := Lib.hid hreg
  clear hreg his
  go_upto_region 16 with (fail)
  go_cut [10] from 72 to 111 (fun v wx => v = .bool is ∧ Hid (Mod (fun _ => False) W1 wx))
  case first =>
    by_cases k0 : 0 ≤ X
    rotate_left
    · have e0 : decide (0 ≤ X) = false := decide_eq_false k0
      obtain rfl : is = false := by rw [HREG.out, decide_eq_false_iff_not]; omega
      clear k0
      clear HREG HIS hx hy hc hd hPWl hPHl
      go_wp2_with fail
      go_quiet (fail)
      go_wp2_with fail
      go_meet
      case rel => exact ⟨rfl, Lib.hid (Mod.drewN (Mod.refl _) _)⟩
    by_cases k1 : 0 ≤ Y
    rotate_left
    · have e1 : decide (0 ≤ Y) = false := decide_eq_false k1
      obtain rfl : is = false := by rw [HREG.out, decide_eq_false_iff_not]; omega
      clear k1
      clear HREG HIS hx hy hc hd hPWl hPHl
      go_wp2_with fail
      go_quiet (fail)
      go_wp2_with fail
      go_meet
      case rel => exact ⟨rfl, Lib.hid (Mod.drewN (Mod.refl _) _)⟩
    by_cases k2 : 1 ≤ CC
    rotate_left
    · have e2 : decide (1 ≤ CC) = false := decide_eq_false k2
      obtain rfl : is = false := by rw [HREG.out, decide_eq_false_iff_not]; omega
      clear k2
      clear HREG HIS hx hy hc hd hPWl hPHl
      go_wp2_with fail
      go_quiet (fail)
      go_wp2_with fail
      go_meet
      case rel => exact ⟨rfl, Lib.hid (Mod.drewN (Mod.refl _) _)⟩
    by_cases k3 : 1 ≤ D
    rotate_left
    · have e3 : decide (1 ≤ D) = false := decide_eq_false k3
      obtain rfl : is = false := by rw [HREG.out, decide_eq_false_iff_not]; omega
      clear k3
      clear HREG HIS hx hy hc hd hPWl hPHl
      go_wp2_with fail
      go_quiet (fail)
      go_wp2_with fail
      go_meet
      case rel => exact ⟨rfl, Lib.hid (Mod.drewN (Mod.refl _) _)⟩
    by_cases k4 : X + CC ≤ (P.W : Int)
    rotate_left
    · have e4 : decide (X + CC ≤ (P.W : Int)) = false := decide_eq_false k4
      obtain rfl : is = false := by rw [HREG.out, decide_eq_false_iff_not]; omega
      clear k4
      clear HREG HIS hx hy hc hd hPWl hPHl
      go_wp2_with fail
      go_quiet (fail)
      go_wp2_with fail
      go_meet
      case rel => exact ⟨rfl, Lib.hid (Mod.drewN (Mod.refl _) _)⟩
    by_cases k5 : Y + D ≤ (P.H : Int)
    rotate_left
    · have e5 : decide (Y + D ≤ (P.H : Int)) = false := decide_eq_false k5
      obtain rfl : is = false := by rw [HREG.out, decide_eq_false_iff_not]; omega
      clear k5
      clear HREG HIS hx hy hc hd hPWl hPHl
      go_wp2_with fail
      go_quiet (fail)
      go_wp2_with fail
      go_meet
      case rel => exact ⟨rfl, Lib.hid (Mod.drewN (Mod.refl _) _)⟩
    obtain rfl : is = true := by rw [HREG.out, decide_eq_true_eq]; exact ⟨k0, k1, k2, k3, k4, k5⟩
    clear HREG HIS hx hy hc hd hPWl hPHl
    go_wp2_with fail
    go_quiet (fail)
    go_wp2_with fail
    go_meet
    case rel => exact ⟨rfl, Lib.hid (Mod.drewN (Mod.refl _) _)⟩
  case rest =>
    obtain ⟨rfl, HMM⟩ := hcut
    have HA2 : Hid (Arr wc 65 E [.int .i64 4, .int .i64 X, .int .i64 Y, .int .i64 CC, .int .i64 D, .slice SA sn sc]) := Lib.hid (HA.out.mod HMM.out (fun h => h))
    have HW2 : Hid (WR wc w.heap.size G P.W (· < P.H) P.f R C) := Lib.hid (HWR1.out.mod HMM.out (fun h => h) (fun _ _ h => h))
    have HPL : Hid (P.W < 1000 ∧ P.H < 1000) := Lib.hid ⟨hPWl, hPHl⟩
    clear a0 a1 a2 a3 a4 a5 d0 hb0 hp1
    have b1 := HA2.out.cell? 1
    have b2 := HA2.out.cell? 2
    have b3 := HA2.out.cell? 3
    have b4 := HA2.out.cell? 4
    simp only [List.getElem?_cons_zero, List.getElem?_cons_succ] at b1 b2 b3 b4
    cases is
    · have HPOST : Hid (GPost w.heap.size G P.H R (s.run P) (s.told P) W1 wc (.slice (some ⟨G, 0, none⟩) P.H cG) (.bool false)) := Lib.hid (by
        have h3 : WR wc w.heap.size G P.W (· < P.H) (s.eff P) R C := HW2.out.congr (fun r c _ _ => by rw [eff4 HOP.out.symm, ← HIS.out]; simp)
        have h5 := gp_same (c := cG) (by rw [← HOP.out]; decide) h3 (HMM.out.mono (fun _ _ h => h.elim))
        have ht : s.told P = false := by unfold Stp.told; rw [if_pos HOP.out.symm, ← HIS.out]
        rw [ht] at h5 ⊢
        exact h5)
      have hDD : decide (Y < Y + D) = true ∨ decide (Y < Y + D) = false := by cases decide (Y < Y + D) <;> simp
      clear HREG HIS hx hy hc hd hPWl hPHl
      go_wp2_with fail
      go_loopw [11] (fun i wr => i = .int .i64 Y ∧ wr = wc) (fun _ _ => 0)
      case atStart => exact ⟨rfl, rfl⟩
      case round =>
        obtain ⟨rfl, rfl⟩ := hrel
        rcases hDD with hDD | hDD
        all_goals
          go_wp2_with fail
          refine Met.intro ?_
          go_step
          refine And.left (b := True) ?_
          go_big_round
          exact ⟨HPOST, trivial⟩
    · have hreg := HREG.out
      rw [eq_comm, decide_eq_true_eq] at hreg
      obtain ⟨r1, r2, r3, r4, r5, r6⟩ := hreg
      obtain ⟨a, rfl⟩ : ∃ i : Nat, X = i := ⟨X.toNat, by omega⟩
      obtain ⟨y0, rfl⟩ : ∃ i : Nat, Y = i := ⟨Y.toNat, by omega⟩
      obtain ⟨c3, rfl⟩ : ∃ i : Nat, CC = i := ⟨CC.toNat, by omega⟩
      obtain ⟨d3, rfl⟩ : ∃ i : Nat, D = i := ⟨D.toNat, by omega⟩
      obtain ⟨ae, hae⟩ : ∃ ae, ae = a + c3 := ⟨_, rfl⟩
      obtain ⟨ye, hye⟩ : ∃ ye, ye = y0 + d3 := ⟨_, rfl⟩
      have eae : (a : Int) + (c3 : Int) = (ae : Int) := by omega
      have eye : (y0 : Int) + (d3 : Int) = (ye : Int) := by omega
      rw [eae] at hw1
      rw [eye] at hw2
      have haW : ae ≤ P.W := by omega
      have hyH : ye ≤ P.H := by omega
      have hal : a ≤ ae := by omega
      have hyl0 : y0 ≤ ye := by omega
      have hael : ae < 1000 := by omega
      have hyel : ye < 1000 := by omega
      have HAW := Lib.hid haW
      have HYH := Lib.hid hyH
      have HAE := Lib.hid hae
      have HYE := Lib.hid hye
      have HWZ : Hid (WR wc w.heap.size G P.W (· < P.H) (fun r c => P.f r c || decide (a ≤ c ∧ c < ae ∧ y0 ≤ r ∧ r < y0)) R C) := Lib.hid (HW2.out.congr (fun r c _ _ => by
        have : decide (a ≤ c ∧ c < ae ∧ y0 ≤ r ∧ r < y0) = false := by rw [decide_eq_false_iff_not]; omega
        rw [this, Bool.or_false]))
      have HMZ : Hid (Mod (fun q => q = G ∨ ∃ r, r < P.H ∧ q = R r) W1 wc) := Lib.hid (HMM.out.mono (fun _ _ h => h.elim))
      clear HREG r1 r2 r3 r4 r5 r6 hx hy hc hd hPWl hPHl hae hye haW hyH
      go_wp2_with fail
      clear b1 b2 b3 b4
      go_loopw [11] (fun i wr => ∃ y : Nat, y0 ≤ y ∧ y ≤ ye ∧ i = .int .i64 y ∧ Hid (WR wr w.heap.size G P.W (· < P.H) (fun r c => P.f r c || decide (a ≤ c ∧ c < ae ∧ y0 ≤ r ∧ r < y)) R C) ∧ Hid (Mod (fun q => q = G ∨ ∃ r, r < P.H ∧ q = R r) W1 wr)) (fun i _ => ye - (intOf i).toNat)
      case atStart => exact ⟨y0, Nat.le_refl _, hyl0, rfl, HWZ, HMZ⟩
      case round =>
        obtain ⟨y, hy0, hy, rfl, HW, HM⟩ := hrel
        clear HWZ HMZ
        have HA3 : Hid (Arr wr 65 E [.int .i64 4, .int .i64 a, .int .i64 y0, .int .i64 c3, .int .i64 d3, .slice SA sn sc]) := Lib.hid (HA.out.mod HM.out (fun h => by
          rcases h with h | ⟨r, hr, h⟩
          · have := HGE.out.1; omega
          · have := HGE.out.2 r hr; omega))
        have b1 := HA3.out.cell? 1
        have b2 := HA3.out.cell? 2
        have b3 := HA3.out.cell? 3
        have b4 := HA3.out.cell? 4
        simp only [List.getElem?_cons_zero, List.getElem?_cons_succ] at b1 b2 b3 b4
        by_cases hyl : y < ye
        · have hyP : y < P.H := by have := HYH.out; omega
          have HWI : Hid (WR wr w.heap.size G P.W (· < P.H) (fun r c => P.f r c || decide (a ≤ c ∧ c < ae ∧ y0 ≤ r ∧ (r < y ∨ r = y ∧ c < a))) R C) := Lib.hid (HW.out.congr (fun r c _ _ => by
            congr 1; rw [decide_eq_decide]; omega))
          have hyP1 : (y : Int) < (P.H : Int) := by omega
          go_wp2_with fail
          clear b1 b2 b3 b4
          go_loopw [12] (fun i wr => ∃ x : Nat, a ≤ x ∧ x ≤ ae ∧ i = .int .i64 x ∧ Hid (WR wr w.heap.size G P.W (· < P.H) (fun r c => P.f r c || decide (a ≤ c ∧ c < ae ∧ y0 ≤ r ∧ (r < y ∨ r = y ∧ c < x))) R C) ∧ Hid (Mod (fun q => q = G ∨ ∃ r, r < P.H ∧ q = R r) W1 wr)) (fun i _ => ae - (intOf i).toNat)
          case atStart => exact ⟨a, Nat.le_refl _, hal, rfl, HWI, HM⟩
          case round =>
            obtain ⟨x, hx0, hx, rfl, HW, HM⟩ := hrel
            clear HWI
            have HA4 : Hid (Arr wr 65 E [.int .i64 4, .int .i64 a, .int .i64 y0, .int .i64 c3, .int .i64 d3, .slice SA sn sc]) := Lib.hid (HA.out.mod HM.out (fun h => by
              rcases h with h | ⟨r, hr, h⟩
              · have := HGE.out.1; omega
              · have := HGE.out.2 r hr; omega))
            have b1 := HA4.out.cell? 1
            have b3 := HA4.out.cell? 3
            simp only [List.getElem?_cons_zero, List.getElem?_cons_succ] at b1 b3
            by_cases hxl : x < ae
            · have hxP : x < P.W := by have := HAW.out; omega
              have d0 := HW.out.head y hyP
              have d1 := HW.out.rows.cell y x hyP hxP
              have d2 := HW.out.rows.free y x hyP
              have HW3 := Lib.hid (HW.out.set_ (g := fun r c => P.f r c || decide (a ≤ c ∧ c < ae ∧ y0 ≤ r ∧ (r < y ∨ r = y ∧ c < x + 1))) y x hyP hxP true (fun r c hr hc => by
                by_cases e : r = y ∧ c = x
                · rw [if_pos e, decide_eq_true (by omega), Bool.or_true]
                · rw [if_neg e]
                  congr 1; rw [decide_eq_decide]; omega))
              have HM3 := Lib.hid (HM.out.setCell (p := ⟨R y, x, none⟩) (.inl (.inr ⟨y, hyP, rfl⟩)) (.bool true))
              have hx0' : (0 : Int) ≤ (x : Int) := by omega
              have hx1 : (x : Int) < (P.W : Int) := by omega
              obtain ⟨rb, hrb⟩ : ∃ rb, rb = R y := ⟨_, rfl⟩
              rw [← hrb] at HW3 HM3 d1 d0 d2
              obtain ⟨v, hv⟩ : ∃ v, v = (P.f y x || decide (a ≤ x ∧ x < ae ∧ y0 ≤ y ∧ (y < y ∨ y = y ∧ x < x))) := ⟨_, rfl⟩
              rw [← hv] at d1
              clear hrb hv HW HM
              go_wp2_with fail
              go_roundw
              case rel => exact ⟨x + 1, by omega, by omega, by go_num, HW3, HM3⟩
              case measure => simp [intOf]; omega
            · obtain rfl : x = ae := by omega
              have HW3 : Hid (WR wr w.heap.size G P.W (· < P.H) (fun r c => P.f r c || decide (a ≤ c ∧ c < x ∧ y0 ≤ r ∧ r < y + 1)) R C) := Lib.hid (HW.out.congr (fun r c _ _ => by
                congr 1; rw [decide_eq_decide]; omega))
              go_wp2_with fail
              go_roundw
              case rel => exact ⟨y + 1, by omega, by omega, by go_num, HW3, HM⟩
              case measure => simp [intOf]; omega
        · obtain rfl : y = ye := by omega
          have HPOST : Hid (GPost w.heap.size G P.H R (s.run P) (s.told P) W1 wr (.slice (some ⟨G, 0, none⟩) P.H cG) (.bool true)) := Lib.hid (by
            have h3 : WR wr w.heap.size G P.W (· < P.H) (s.eff P) R C := HW.out.congr (fun r c _ _ => by
              have h1 := HAE.out
              have h2 := HYE.out
              rw [eff4 HOP.out.symm, ← HIS.out, ← HX.out, ← HY.out, ← HC.out, ← HD.out, Bool.true_and]
              congr 1; rw [decide_eq_decide]; omega)
            have h5 := gp_same (c := cG) (by rw [← HOP.out]; decide) h3 HM.out
            have ht : s.told P = true := by unfold Stp.told; rw [if_pos HOP.out.symm, ← HIS.out]
            rw [ht] at h5 ⊢
            exact h5)
          go_wp2_with fail
          refine Met.intro ?_
          go_step
          refine And.left (b := True) ?_
          go_big_round
          exact ⟨HPOST, trivial⟩
end Go.Proofs.Ytcfcbcjaiplllaa
