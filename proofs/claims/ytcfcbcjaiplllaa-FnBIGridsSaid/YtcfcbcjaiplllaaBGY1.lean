/-
  The steps 1 to 3 and 5 to 8 of spec.BIGrid, walked. No condition beyond the bounds that each theorem states.
-/
import Derived.Test.YtcfcbcjaiplllaaBGY0
import Derived.StillTailTactics
import Derived.BigQuiet
import Derived.Deep.CutRange
namespace Go.Proofs.Ytcfcbcjaiplllaa
open Go.RowKit Go.Qz
set_option linter.unusedVariables false

set_option maxRecDepth 100000 in
set_option maxHeartbeats 6400000 in
theorem sw1 {J K' : Act → World → Prop} {Q' : Exit → Act → World → Prop} {w W1 : World} {G E cG : Nat} {R C : Nat → Nat} {P : Pic} {s : Stp} {X Y CC D : Int} {SA : Option Addr} {sn sc : Nat}
    {v0 v1 v2 v3 v4 v5 v7 v8 v11 v12 v13 v14 v15 v16 v17 v18 v19 v20 v21 v22 v23 v24 v25 v26 v27 v28 v29 v30 v31 v32 v33 v34 v35 v36 v37 v38 v39 v40 v41 v42 v43 v44 v45 v46 v47 v48 v49 v50 v51 v52 v53 v54 v55 v56 v57 v58 v59 v60 v61 v62 v63 v64 v65 v66 v67 v68 v69 v70 v71 v72 v73 v74 v75 v76 v77 v78 v79 v80 v81 v82 v83 v84 v85 v86 v87 v88 v89 v90 v91 v92 v93 v94 v95 v96 v97 v98 v99 v100 v101 v102 v103 v104 v105 v106 v107 v108 v109 v110 v111 v112 v113 v114 v115 v116 v117 v118 v119 v120 v121 v122 v123 v124 v125 v126 v127 v128 v129 v130 v131 v132 v133 v134 v135 v136 v137 v138 v139 v140 v141 v142 v143 v144 v145 v146 v147 v148 v149 v150 v151 v152 v153 v154 v155 v156 v157 v158 v159 v160 v161 v162 v163 v164 v165 v166 v167 v168 v169 v170 v171 v172 v173 v174 v175 v176 v177 v178 v179 v180 v181 v182 v183 v184 v185 v186 v187 v188 v189 v190 v191 v192 v193 v194 v195 v196 v197 v198 v199 v200 v201 v202 v203 v204 v205 v206 v207 v208 v209 v210 v211 v212 v213 v214 v215 v216 v217 v218 v219 v220 v221 v222 v223 v224 v225 v226 v227 v228 v229 v230 v231 v232 v233 v234 v235 v236 v237 v238 v239 v240 : Value}
    (hJ : ∀ a' w', (∃ u6 u10 u11 u12 u13 u14 u15 u18 u19 u20 u21 u22 u23 u24 u25 u26 u27 u28 u29 u30 u31 u32 u33 u34 u35 u36 u37 u38 u39 u40 u41 u42 u43 u44 u45 u46 u47 u48 u49 u50 u51 u52 u53 u54 u55 u56 u57 u58 u59 u60 u61 u62 u63 u64 u65 u66 u67 u68 u69 u70 u71 u72 u73 u74 u75 u76 u77 u78 u79 u80 u81 u82 u83 u84 u85 u86 u87 u88 u89 u90 u91 u92 u93 u94 u95 u96 u97 u98 u99 u100 u101 u102 u103 u104 u105 u106 u107 u108 u109 u110 u111 u112 u113 u114 u115 u116 u117 u118 u119 u120 u121 u122 u123 u124 u125 u126 u127 u128 u129 u130 u131 u132 u133 u134 u135 u136 u137 u138 u139 u140 u141 u142 u143 u144 u145 u146 u147 u148 u149 u150 u151 u152 u153 u154 u155 u156 u157 u158 u159 u160 u161 u162 u163 u164 u165 u166 u167 u168 u169 u170 u171 u172 u173 u174 u175 u176 u177 u178 u179 u180 u181 u182 u183 u184 u185 u186 u187 u188 u189 u190 u191 u192 u193 u194 u195 u196 u197 u198 u199 u200 u201 u202 u203 u204 u205 u206 u207 u208 u209 u210 u211 u212 u213 u214 u215 u216 u217 u218 u219 u220 u221 u222 u223 u224 u225 u226 u227 u228 u229 u230 u231 u232 u233 u234 u235 u236 u237 u238 : Value, Hid (GPost w.heap.size G P.H R (s.run P) (s.told P) W1 w' u6 u10) ∧ a' = ⟨List.toArray (v0 :: v1 :: v2 :: v3 :: v4 :: v5 :: u6 :: v7 :: v8 :: .pointer (some ⟨E, 0, none⟩) :: u10 :: u11 :: u12 :: u13 :: u14 :: u15 :: v16 :: v17 :: u18 :: u19 :: u20 :: u21 :: u22 :: u23 :: u24 :: u25 :: u26 :: u27 :: u28 :: u29 :: u30 :: u31 :: u32 :: u33 :: u34 :: u35 :: u36 :: u37 :: u38 :: u39 :: u40 :: u41 :: u42 :: u43 :: u44 :: u45 :: u46 :: u47 :: u48 :: u49 :: u50 :: u51 :: u52 :: u53 :: u54 :: u55 :: u56 :: u57 :: u58 :: u59 :: u60 :: u61 :: u62 :: u63 :: u64 :: u65 :: u66 :: u67 :: u68 :: u69 :: u70 :: u71 :: u72 :: u73 :: u74 :: u75 :: u76 :: u77 :: u78 :: u79 :: u80 :: u81 :: u82 :: u83 :: u84 :: u85 :: u86 :: u87 :: u88 :: u89 :: u90 :: u91 :: u92 :: u93 :: u94 :: u95 :: u96 :: u97 :: u98 :: u99 :: u100 :: u101 :: u102 :: u103 :: u104 :: u105 :: u106 :: u107 :: u108 :: u109 :: u110 :: u111 :: u112 :: u113 :: u114 :: u115 :: u116 :: u117 :: u118 :: u119 :: u120 :: u121 :: u122 :: u123 :: u124 :: u125 :: u126 :: u127 :: u128 :: u129 :: u130 :: u131 :: u132 :: u133 :: u134 :: u135 :: u136 :: u137 :: u138 :: u139 :: u140 :: u141 :: u142 :: u143 :: u144 :: u145 :: u146 :: u147 :: u148 :: u149 :: u150 :: u151 :: u152 :: u153 :: u154 :: u155 :: u156 :: u157 :: u158 :: u159 :: u160 :: u161 :: u162 :: u163 :: u164 :: u165 :: u166 :: u167 :: u168 :: u169 :: u170 :: u171 :: u172 :: u173 :: u174 :: u175 :: u176 :: u177 :: u178 :: u179 :: u180 :: u181 :: u182 :: u183 :: u184 :: u185 :: u186 :: u187 :: u188 :: u189 :: u190 :: u191 :: u192 :: u193 :: u194 :: u195 :: u196 :: u197 :: u198 :: u199 :: u200 :: u201 :: u202 :: u203 :: u204 :: u205 :: u206 :: u207 :: u208 :: u209 :: u210 :: u211 :: u212 :: u213 :: u214 :: u215 :: u216 :: u217 :: u218 :: u219 :: u220 :: u221 :: u222 :: u223 :: u224 :: u225 :: u226 :: u227 :: u228 :: u229 :: u230 :: u231 :: u232 :: u233 :: u234 :: u235 :: u236 :: u237 :: u238 :: v239 :: v240 :: []), []⟩) → J a' w') (hK : ∀ a' w', Met J a' w' → K' a' w')
    (HOP : Hid (1 = s.op)) (HX : Hid (X = s.X)) (HY : Hid (Y = s.Y)) (HC : Hid (CC = s.C)) (HD : Hid (D = s.D))
    (HA : Hid (Arr W1 65 E [.int .i64 1, .int .i64 X, .int .i64 Y, .int .i64 CC, .int .i64 D, .slice SA sn sc]))
    (HWR1 : Hid (WR W1 w.heap.size G P.W (· < P.H) P.f R C)) (HBB : Hid (w.heap.size ≤ W1.heap.size)) (HGE : Hid (G < E ∧ ∀ r, r < P.H → R r < E)) (HL : Hid (Bnd P)) (HBE1 : Hid (Below w.heap.size w W1)) (hx0 : 0 ≤ X) (hx1 : X < P.W) (hy0 : 0 ≤ Y) (hy1 : Y < P.H) :
    Code.wp Try.prog swB (Exit.then K' Q') ⟨List.toArray (v0 :: v1 :: v2 :: v3 :: v4 :: v5 :: .slice (some ⟨G, 0, none⟩) P.H cG :: v7 :: v8 :: .pointer (some ⟨E, 0, none⟩) :: .bool true :: v11 :: v12 :: v13 :: v14 :: v15 :: v16 :: v17 :: v18 :: v19 :: v20 :: v21 :: v22 :: v23 :: v24 :: v25 :: v26 :: v27 :: v28 :: v29 :: v30 :: v31 :: v32 :: v33 :: v34 :: v35 :: v36 :: v37 :: v38 :: v39 :: v40 :: v41 :: v42 :: v43 :: v44 :: v45 :: v46 :: v47 :: v48 :: v49 :: v50 :: v51 :: v52 :: v53 :: v54 :: v55 :: v56 :: v57 :: v58 :: v59 :: v60 :: v61 :: v62 :: v63 :: v64 :: v65 :: v66 :: v67 :: v68 :: v69 :: v70 :: v71 :: v72 :: v73 :: v74 :: v75 :: v76 :: v77 :: v78 :: v79 :: v80 :: v81 :: v82 :: v83 :: v84 :: v85 :: v86 :: v87 :: v88 :: v89 :: v90 :: v91 :: v92 :: v93 :: v94 :: v95 :: v96 :: v97 :: v98 :: v99 :: v100 :: v101 :: v102 :: v103 :: v104 :: v105 :: v106 :: v107 :: v108 :: v109 :: v110 :: v111 :: v112 :: v113 :: v114 :: v115 :: v116 :: v117 :: v118 :: v119 :: v120 :: v121 :: v122 :: v123 :: v124 :: v125 :: v126 :: v127 :: v128 :: v129 :: v130 :: v131 :: v132 :: v133 :: v134 :: v135 :: v136 :: v137 :: v138 :: v139 :: v140 :: v141 :: v142 :: v143 :: v144 :: v145 :: v146 :: v147 :: v148 :: v149 :: v150 :: v151 :: v152 :: v153 :: v154 :: v155 :: v156 :: v157 :: v158 :: v159 :: v160 :: v161 :: v162 :: v163 :: v164 :: v165 :: v166 :: v167 :: v168 :: v169 :: v170 :: v171 :: v172 :: v173 :: v174 :: v175 :: v176 :: v177 :: v178 :: v179 :: v180 :: v181 :: v182 :: v183 :: v184 :: v185 :: v186 :: v187 :: v188 :: v189 :: v190 :: v191 :: v192 :: v193 :: v194 :: v195 :: v196 :: v197 :: v198 :: v199 :: v200 :: v201 :: v202 :: v203 :: v204 :: v205 :: v206 :: v207 :: v208 :: v209 :: v210 :: v211 :: v212 :: v213 :: v214 :: v215 :: v216 :: v217 :: v218 :: v219 :: v220 :: v221 :: v222 :: v223 :: v224 :: v225 :: v226 :: v227 :: v228 :: v229 :: v230 :: v231 :: v232 :: v233 :: v234 :: v235 :: v236 :: v237 :: v238 :: v239 :: v240 :: []), []⟩ W1 := by
  have a0 := HA.out.cell? 0
  have a1 := HA.out.cell? 1
  have a2 := HA.out.cell? 2
  have a3 := HA.out.cell? 3
  have a4 := HA.out.cell? 4
  have a5 := HA.out.cell? 5
  simp only [List.getElem?_cons_zero, List.getElem?_cons_succ] at a0 a1 a2 a3 a4 a5
  unfold swB bodyB
  dsimp only [cL, cR, cB, Try.f16, Option.getD]
  obtain ⟨i, rfl⟩ : ∃ i : Nat, X = i := ⟨X.toNat, by omega⟩
  obtain ⟨j, rfl⟩ : ∃ j : Nat, Y = j := ⟨Y.toNat, by omega⟩
  have hi : i < P.W := by omega
  have hj : j < P.H := by omega
  have d0 := HWR1.out.head j hj
  have d1 := HWR1.out.rows.cell j i hj hi
  have d2 := HWR1.out.rows.free j i hj
  have hb0 := HWR1.out.glt
  have HPOST := Lib.hid (gp_set (c := cG) (v := true) (by rw [← HOP.out]; decide) (by rw [← HOP.out]; decide) HWR1.out hi hj (fun r c hr hc => by
    rw [eff1 HOP.out.symm, ← HX.out, ← HY.out]
    by_cases e : r = j ∧ c = i
    · rw [if_pos e, if_pos (by omega)]
    · rw [if_neg e, if_neg (by omega)]))
  obtain ⟨rb, hrb⟩ : ∃ rb, rb = R j := ⟨_, rfl⟩
  rw [← hrb] at d0 d1 d2 HPOST
  clear hrb
  go_wp2_with fail
  go_still_tail 8, (by kernel_rfl)
  repeat still_step
  try refine wpStill_nil ?_
  change wpList _ _ _ _ _ W1.drew
  go_wp2_with fail
  refine Met.intro ?_
  go_step
  refine And.left (b := True) ?_
  go_big_round
  exact ⟨HPOST, trivial⟩
set_option maxRecDepth 100000 in
set_option maxHeartbeats 6400000 in
theorem sw2 {J K' : Act → World → Prop} {Q' : Exit → Act → World → Prop} {w W1 : World} {G E cG : Nat} {R C : Nat → Nat} {P : Pic} {s : Stp} {X Y CC D : Int} {SA : Option Addr} {sn sc : Nat}
    {v0 v1 v2 v3 v4 v5 v7 v8 v11 v12 v13 v14 v15 v16 v17 v18 v19 v20 v21 v22 v23 v24 v25 v26 v27 v28 v29 v30 v31 v32 v33 v34 v35 v36 v37 v38 v39 v40 v41 v42 v43 v44 v45 v46 v47 v48 v49 v50 v51 v52 v53 v54 v55 v56 v57 v58 v59 v60 v61 v62 v63 v64 v65 v66 v67 v68 v69 v70 v71 v72 v73 v74 v75 v76 v77 v78 v79 v80 v81 v82 v83 v84 v85 v86 v87 v88 v89 v90 v91 v92 v93 v94 v95 v96 v97 v98 v99 v100 v101 v102 v103 v104 v105 v106 v107 v108 v109 v110 v111 v112 v113 v114 v115 v116 v117 v118 v119 v120 v121 v122 v123 v124 v125 v126 v127 v128 v129 v130 v131 v132 v133 v134 v135 v136 v137 v138 v139 v140 v141 v142 v143 v144 v145 v146 v147 v148 v149 v150 v151 v152 v153 v154 v155 v156 v157 v158 v159 v160 v161 v162 v163 v164 v165 v166 v167 v168 v169 v170 v171 v172 v173 v174 v175 v176 v177 v178 v179 v180 v181 v182 v183 v184 v185 v186 v187 v188 v189 v190 v191 v192 v193 v194 v195 v196 v197 v198 v199 v200 v201 v202 v203 v204 v205 v206 v207 v208 v209 v210 v211 v212 v213 v214 v215 v216 v217 v218 v219 v220 v221 v222 v223 v224 v225 v226 v227 v228 v229 v230 v231 v232 v233 v234 v235 v236 v237 v238 v239 v240 : Value}
    (hJ : ∀ a' w', (∃ u6 u10 u11 u12 u13 u14 u15 u18 u19 u20 u21 u22 u23 u24 u25 u26 u27 u28 u29 u30 u31 u32 u33 u34 u35 u36 u37 u38 u39 u40 u41 u42 u43 u44 u45 u46 u47 u48 u49 u50 u51 u52 u53 u54 u55 u56 u57 u58 u59 u60 u61 u62 u63 u64 u65 u66 u67 u68 u69 u70 u71 u72 u73 u74 u75 u76 u77 u78 u79 u80 u81 u82 u83 u84 u85 u86 u87 u88 u89 u90 u91 u92 u93 u94 u95 u96 u97 u98 u99 u100 u101 u102 u103 u104 u105 u106 u107 u108 u109 u110 u111 u112 u113 u114 u115 u116 u117 u118 u119 u120 u121 u122 u123 u124 u125 u126 u127 u128 u129 u130 u131 u132 u133 u134 u135 u136 u137 u138 u139 u140 u141 u142 u143 u144 u145 u146 u147 u148 u149 u150 u151 u152 u153 u154 u155 u156 u157 u158 u159 u160 u161 u162 u163 u164 u165 u166 u167 u168 u169 u170 u171 u172 u173 u174 u175 u176 u177 u178 u179 u180 u181 u182 u183 u184 u185 u186 u187 u188 u189 u190 u191 u192 u193 u194 u195 u196 u197 u198 u199 u200 u201 u202 u203 u204 u205 u206 u207 u208 u209 u210 u211 u212 u213 u214 u215 u216 u217 u218 u219 u220 u221 u222 u223 u224 u225 u226 u227 u228 u229 u230 u231 u232 u233 u234 u235 u236 u237 u238 : Value, Hid (GPost w.heap.size G P.H R (s.run P) (s.told P) W1 w' u6 u10) ∧ a' = ⟨List.toArray (v0 :: v1 :: v2 :: v3 :: v4 :: v5 :: u6 :: v7 :: v8 :: .pointer (some ⟨E, 0, none⟩) :: u10 :: u11 :: u12 :: u13 :: u14 :: u15 :: v16 :: v17 :: u18 :: u19 :: u20 :: u21 :: u22 :: u23 :: u24 :: u25 :: u26 :: u27 :: u28 :: u29 :: u30 :: u31 :: u32 :: u33 :: u34 :: u35 :: u36 :: u37 :: u38 :: u39 :: u40 :: u41 :: u42 :: u43 :: u44 :: u45 :: u46 :: u47 :: u48 :: u49 :: u50 :: u51 :: u52 :: u53 :: u54 :: u55 :: u56 :: u57 :: u58 :: u59 :: u60 :: u61 :: u62 :: u63 :: u64 :: u65 :: u66 :: u67 :: u68 :: u69 :: u70 :: u71 :: u72 :: u73 :: u74 :: u75 :: u76 :: u77 :: u78 :: u79 :: u80 :: u81 :: u82 :: u83 :: u84 :: u85 :: u86 :: u87 :: u88 :: u89 :: u90 :: u91 :: u92 :: u93 :: u94 :: u95 :: u96 :: u97 :: u98 :: u99 :: u100 :: u101 :: u102 :: u103 :: u104 :: u105 :: u106 :: u107 :: u108 :: u109 :: u110 :: u111 :: u112 :: u113 :: u114 :: u115 :: u116 :: u117 :: u118 :: u119 :: u120 :: u121 :: u122 :: u123 :: u124 :: u125 :: u126 :: u127 :: u128 :: u129 :: u130 :: u131 :: u132 :: u133 :: u134 :: u135 :: u136 :: u137 :: u138 :: u139 :: u140 :: u141 :: u142 :: u143 :: u144 :: u145 :: u146 :: u147 :: u148 :: u149 :: u150 :: u151 :: u152 :: u153 :: u154 :: u155 :: u156 :: u157 :: u158 :: u159 :: u160 :: u161 :: u162 :: u163 :: u164 :: u165 :: u166 :: u167 :: u168 :: u169 :: u170 :: u171 :: u172 :: u173 :: u174 :: u175 :: u176 :: u177 :: u178 :: u179 :: u180 :: u181 :: u182 :: u183 :: u184 :: u185 :: u186 :: u187 :: u188 :: u189 :: u190 :: u191 :: u192 :: u193 :: u194 :: u195 :: u196 :: u197 :: u198 :: u199 :: u200 :: u201 :: u202 :: u203 :: u204 :: u205 :: u206 :: u207 :: u208 :: u209 :: u210 :: u211 :: u212 :: u213 :: u214 :: u215 :: u216 :: u217 :: u218 :: u219 :: u220 :: u221 :: u222 :: u223 :: u224 :: u225 :: u226 :: u227 :: u228 :: u229 :: u230 :: u231 :: u232 :: u233 :: u234 :: u235 :: u236 :: u237 :: u238 :: v239 :: v240 :: []), []⟩) → J a' w') (hK : ∀ a' w', Met J a' w' → K' a' w')
    (HOP : Hid (2 = s.op)) (HX : Hid (X = s.X)) (HY : Hid (Y = s.Y)) (HC : Hid (CC = s.C)) (HD : Hid (D = s.D))
    (HA : Hid (Arr W1 65 E [.int .i64 2, .int .i64 X, .int .i64 Y, .int .i64 CC, .int .i64 D, .slice SA sn sc]))
    (HWR1 : Hid (WR W1 w.heap.size G P.W (· < P.H) P.f R C)) (HBB : Hid (w.heap.size ≤ W1.heap.size)) (HGE : Hid (G < E ∧ ∀ r, r < P.H → R r < E)) (HL : Hid (Bnd P)) (HBE1 : Hid (Below w.heap.size w W1)) (hx0 : 0 ≤ X) (hx1 : X < P.W) (hy0 : 0 ≤ Y) (hy1 : Y < P.H) :
    Code.wp Try.prog swB (Exit.then K' Q') ⟨List.toArray (v0 :: v1 :: v2 :: v3 :: v4 :: v5 :: .slice (some ⟨G, 0, none⟩) P.H cG :: v7 :: v8 :: .pointer (some ⟨E, 0, none⟩) :: .bool true :: v11 :: v12 :: v13 :: v14 :: v15 :: v16 :: v17 :: v18 :: v19 :: v20 :: v21 :: v22 :: v23 :: v24 :: v25 :: v26 :: v27 :: v28 :: v29 :: v30 :: v31 :: v32 :: v33 :: v34 :: v35 :: v36 :: v37 :: v38 :: v39 :: v40 :: v41 :: v42 :: v43 :: v44 :: v45 :: v46 :: v47 :: v48 :: v49 :: v50 :: v51 :: v52 :: v53 :: v54 :: v55 :: v56 :: v57 :: v58 :: v59 :: v60 :: v61 :: v62 :: v63 :: v64 :: v65 :: v66 :: v67 :: v68 :: v69 :: v70 :: v71 :: v72 :: v73 :: v74 :: v75 :: v76 :: v77 :: v78 :: v79 :: v80 :: v81 :: v82 :: v83 :: v84 :: v85 :: v86 :: v87 :: v88 :: v89 :: v90 :: v91 :: v92 :: v93 :: v94 :: v95 :: v96 :: v97 :: v98 :: v99 :: v100 :: v101 :: v102 :: v103 :: v104 :: v105 :: v106 :: v107 :: v108 :: v109 :: v110 :: v111 :: v112 :: v113 :: v114 :: v115 :: v116 :: v117 :: v118 :: v119 :: v120 :: v121 :: v122 :: v123 :: v124 :: v125 :: v126 :: v127 :: v128 :: v129 :: v130 :: v131 :: v132 :: v133 :: v134 :: v135 :: v136 :: v137 :: v138 :: v139 :: v140 :: v141 :: v142 :: v143 :: v144 :: v145 :: v146 :: v147 :: v148 :: v149 :: v150 :: v151 :: v152 :: v153 :: v154 :: v155 :: v156 :: v157 :: v158 :: v159 :: v160 :: v161 :: v162 :: v163 :: v164 :: v165 :: v166 :: v167 :: v168 :: v169 :: v170 :: v171 :: v172 :: v173 :: v174 :: v175 :: v176 :: v177 :: v178 :: v179 :: v180 :: v181 :: v182 :: v183 :: v184 :: v185 :: v186 :: v187 :: v188 :: v189 :: v190 :: v191 :: v192 :: v193 :: v194 :: v195 :: v196 :: v197 :: v198 :: v199 :: v200 :: v201 :: v202 :: v203 :: v204 :: v205 :: v206 :: v207 :: v208 :: v209 :: v210 :: v211 :: v212 :: v213 :: v214 :: v215 :: v216 :: v217 :: v218 :: v219 :: v220 :: v221 :: v222 :: v223 :: v224 :: v225 :: v226 :: v227 :: v228 :: v229 :: v230 :: v231 :: v232 :: v233 :: v234 :: v235 :: v236 :: v237 :: v238 :: v239 :: v240 :: []), []⟩ W1 := by
  have a0 := HA.out.cell? 0
  have a1 := HA.out.cell? 1
  have a2 := HA.out.cell? 2
  have a3 := HA.out.cell? 3
  have a4 := HA.out.cell? 4
  have a5 := HA.out.cell? 5
  simp only [List.getElem?_cons_zero, List.getElem?_cons_succ] at a0 a1 a2 a3 a4 a5
  unfold swB bodyB
  dsimp only [cL, cR, cB, Try.f16, Option.getD]
  obtain ⟨i, rfl⟩ : ∃ i : Nat, X = i := ⟨X.toNat, by omega⟩
  obtain ⟨j, rfl⟩ : ∃ j : Nat, Y = j := ⟨Y.toNat, by omega⟩
  have hi : i < P.W := by omega
  have hj : j < P.H := by omega
  have d0 := HWR1.out.head j hj
  have d1 := HWR1.out.rows.cell j i hj hi
  have d2 := HWR1.out.rows.free j i hj
  have hb0 := HWR1.out.glt
  have HPOST := Lib.hid (gp_set (c := cG) (v := false) (by rw [← HOP.out]; decide) (by rw [← HOP.out]; decide) HWR1.out hi hj (fun r c hr hc => by
    rw [eff2 HOP.out.symm, ← HX.out, ← HY.out]
    by_cases e : r = j ∧ c = i
    · rw [if_pos e, if_pos (by omega)]
    · rw [if_neg e, if_neg (by omega)]))
  obtain ⟨rb, hrb⟩ : ∃ rb, rb = R j := ⟨_, rfl⟩
  rw [← hrb] at d0 d1 d2 HPOST
  clear hrb
  go_wp2_with fail
  go_still_tail 8, (by kernel_rfl)
  repeat still_step
  try refine wpStill_nil ?_
  change wpList _ _ _ _ _ W1.drew
  go_wp2_with fail
  refine Met.intro ?_
  go_step
  refine And.left (b := True) ?_
  go_big_round
  exact ⟨HPOST, trivial⟩
set_option maxRecDepth 100000 in
set_option maxHeartbeats 6400000 in
theorem sw3 {J K' : Act → World → Prop} {Q' : Exit → Act → World → Prop} {w W1 : World} {G E cG : Nat} {R C : Nat → Nat} {P : Pic} {s : Stp} {X Y CC D : Int} {SA : Option Addr} {sn sc : Nat}
    {v0 v1 v2 v3 v4 v5 v7 v8 v11 v12 v13 v14 v15 v16 v17 v18 v19 v20 v21 v22 v23 v24 v25 v26 v27 v28 v29 v30 v31 v32 v33 v34 v35 v36 v37 v38 v39 v40 v41 v42 v43 v44 v45 v46 v47 v48 v49 v50 v51 v52 v53 v54 v55 v56 v57 v58 v59 v60 v61 v62 v63 v64 v65 v66 v67 v68 v69 v70 v71 v72 v73 v74 v75 v76 v77 v78 v79 v80 v81 v82 v83 v84 v85 v86 v87 v88 v89 v90 v91 v92 v93 v94 v95 v96 v97 v98 v99 v100 v101 v102 v103 v104 v105 v106 v107 v108 v109 v110 v111 v112 v113 v114 v115 v116 v117 v118 v119 v120 v121 v122 v123 v124 v125 v126 v127 v128 v129 v130 v131 v132 v133 v134 v135 v136 v137 v138 v139 v140 v141 v142 v143 v144 v145 v146 v147 v148 v149 v150 v151 v152 v153 v154 v155 v156 v157 v158 v159 v160 v161 v162 v163 v164 v165 v166 v167 v168 v169 v170 v171 v172 v173 v174 v175 v176 v177 v178 v179 v180 v181 v182 v183 v184 v185 v186 v187 v188 v189 v190 v191 v192 v193 v194 v195 v196 v197 v198 v199 v200 v201 v202 v203 v204 v205 v206 v207 v208 v209 v210 v211 v212 v213 v214 v215 v216 v217 v218 v219 v220 v221 v222 v223 v224 v225 v226 v227 v228 v229 v230 v231 v232 v233 v234 v235 v236 v237 v238 v239 v240 : Value}
    (hJ : ∀ a' w', (∃ u6 u10 u11 u12 u13 u14 u15 u18 u19 u20 u21 u22 u23 u24 u25 u26 u27 u28 u29 u30 u31 u32 u33 u34 u35 u36 u37 u38 u39 u40 u41 u42 u43 u44 u45 u46 u47 u48 u49 u50 u51 u52 u53 u54 u55 u56 u57 u58 u59 u60 u61 u62 u63 u64 u65 u66 u67 u68 u69 u70 u71 u72 u73 u74 u75 u76 u77 u78 u79 u80 u81 u82 u83 u84 u85 u86 u87 u88 u89 u90 u91 u92 u93 u94 u95 u96 u97 u98 u99 u100 u101 u102 u103 u104 u105 u106 u107 u108 u109 u110 u111 u112 u113 u114 u115 u116 u117 u118 u119 u120 u121 u122 u123 u124 u125 u126 u127 u128 u129 u130 u131 u132 u133 u134 u135 u136 u137 u138 u139 u140 u141 u142 u143 u144 u145 u146 u147 u148 u149 u150 u151 u152 u153 u154 u155 u156 u157 u158 u159 u160 u161 u162 u163 u164 u165 u166 u167 u168 u169 u170 u171 u172 u173 u174 u175 u176 u177 u178 u179 u180 u181 u182 u183 u184 u185 u186 u187 u188 u189 u190 u191 u192 u193 u194 u195 u196 u197 u198 u199 u200 u201 u202 u203 u204 u205 u206 u207 u208 u209 u210 u211 u212 u213 u214 u215 u216 u217 u218 u219 u220 u221 u222 u223 u224 u225 u226 u227 u228 u229 u230 u231 u232 u233 u234 u235 u236 u237 u238 : Value, Hid (GPost w.heap.size G P.H R (s.run P) (s.told P) W1 w' u6 u10) ∧ a' = ⟨List.toArray (v0 :: v1 :: v2 :: v3 :: v4 :: v5 :: u6 :: v7 :: v8 :: .pointer (some ⟨E, 0, none⟩) :: u10 :: u11 :: u12 :: u13 :: u14 :: u15 :: v16 :: v17 :: u18 :: u19 :: u20 :: u21 :: u22 :: u23 :: u24 :: u25 :: u26 :: u27 :: u28 :: u29 :: u30 :: u31 :: u32 :: u33 :: u34 :: u35 :: u36 :: u37 :: u38 :: u39 :: u40 :: u41 :: u42 :: u43 :: u44 :: u45 :: u46 :: u47 :: u48 :: u49 :: u50 :: u51 :: u52 :: u53 :: u54 :: u55 :: u56 :: u57 :: u58 :: u59 :: u60 :: u61 :: u62 :: u63 :: u64 :: u65 :: u66 :: u67 :: u68 :: u69 :: u70 :: u71 :: u72 :: u73 :: u74 :: u75 :: u76 :: u77 :: u78 :: u79 :: u80 :: u81 :: u82 :: u83 :: u84 :: u85 :: u86 :: u87 :: u88 :: u89 :: u90 :: u91 :: u92 :: u93 :: u94 :: u95 :: u96 :: u97 :: u98 :: u99 :: u100 :: u101 :: u102 :: u103 :: u104 :: u105 :: u106 :: u107 :: u108 :: u109 :: u110 :: u111 :: u112 :: u113 :: u114 :: u115 :: u116 :: u117 :: u118 :: u119 :: u120 :: u121 :: u122 :: u123 :: u124 :: u125 :: u126 :: u127 :: u128 :: u129 :: u130 :: u131 :: u132 :: u133 :: u134 :: u135 :: u136 :: u137 :: u138 :: u139 :: u140 :: u141 :: u142 :: u143 :: u144 :: u145 :: u146 :: u147 :: u148 :: u149 :: u150 :: u151 :: u152 :: u153 :: u154 :: u155 :: u156 :: u157 :: u158 :: u159 :: u160 :: u161 :: u162 :: u163 :: u164 :: u165 :: u166 :: u167 :: u168 :: u169 :: u170 :: u171 :: u172 :: u173 :: u174 :: u175 :: u176 :: u177 :: u178 :: u179 :: u180 :: u181 :: u182 :: u183 :: u184 :: u185 :: u186 :: u187 :: u188 :: u189 :: u190 :: u191 :: u192 :: u193 :: u194 :: u195 :: u196 :: u197 :: u198 :: u199 :: u200 :: u201 :: u202 :: u203 :: u204 :: u205 :: u206 :: u207 :: u208 :: u209 :: u210 :: u211 :: u212 :: u213 :: u214 :: u215 :: u216 :: u217 :: u218 :: u219 :: u220 :: u221 :: u222 :: u223 :: u224 :: u225 :: u226 :: u227 :: u228 :: u229 :: u230 :: u231 :: u232 :: u233 :: u234 :: u235 :: u236 :: u237 :: u238 :: v239 :: v240 :: []), []⟩) → J a' w') (hK : ∀ a' w', Met J a' w' → K' a' w')
    (HOP : Hid (3 = s.op)) (HX : Hid (X = s.X)) (HY : Hid (Y = s.Y)) (HC : Hid (CC = s.C)) (HD : Hid (D = s.D))
    (HA : Hid (Arr W1 65 E [.int .i64 3, .int .i64 X, .int .i64 Y, .int .i64 CC, .int .i64 D, .slice SA sn sc]))
    (HWR1 : Hid (WR W1 w.heap.size G P.W (· < P.H) P.f R C)) (HBB : Hid (w.heap.size ≤ W1.heap.size)) (HGE : Hid (G < E ∧ ∀ r, r < P.H → R r < E)) (HL : Hid (Bnd P)) (HBE1 : Hid (Below w.heap.size w W1)) (hx0 : 0 ≤ X) (hx1 : X < P.W) (hy0 : 0 ≤ Y) (hy1 : Y < P.H) :
    Code.wp Try.prog swB (Exit.then K' Q') ⟨List.toArray (v0 :: v1 :: v2 :: v3 :: v4 :: v5 :: .slice (some ⟨G, 0, none⟩) P.H cG :: v7 :: v8 :: .pointer (some ⟨E, 0, none⟩) :: .bool true :: v11 :: v12 :: v13 :: v14 :: v15 :: v16 :: v17 :: v18 :: v19 :: v20 :: v21 :: v22 :: v23 :: v24 :: v25 :: v26 :: v27 :: v28 :: v29 :: v30 :: v31 :: v32 :: v33 :: v34 :: v35 :: v36 :: v37 :: v38 :: v39 :: v40 :: v41 :: v42 :: v43 :: v44 :: v45 :: v46 :: v47 :: v48 :: v49 :: v50 :: v51 :: v52 :: v53 :: v54 :: v55 :: v56 :: v57 :: v58 :: v59 :: v60 :: v61 :: v62 :: v63 :: v64 :: v65 :: v66 :: v67 :: v68 :: v69 :: v70 :: v71 :: v72 :: v73 :: v74 :: v75 :: v76 :: v77 :: v78 :: v79 :: v80 :: v81 :: v82 :: v83 :: v84 :: v85 :: v86 :: v87 :: v88 :: v89 :: v90 :: v91 :: v92 :: v93 :: v94 :: v95 :: v96 :: v97 :: v98 :: v99 :: v100 :: v101 :: v102 :: v103 :: v104 :: v105 :: v106 :: v107 :: v108 :: v109 :: v110 :: v111 :: v112 :: v113 :: v114 :: v115 :: v116 :: v117 :: v118 :: v119 :: v120 :: v121 :: v122 :: v123 :: v124 :: v125 :: v126 :: v127 :: v128 :: v129 :: v130 :: v131 :: v132 :: v133 :: v134 :: v135 :: v136 :: v137 :: v138 :: v139 :: v140 :: v141 :: v142 :: v143 :: v144 :: v145 :: v146 :: v147 :: v148 :: v149 :: v150 :: v151 :: v152 :: v153 :: v154 :: v155 :: v156 :: v157 :: v158 :: v159 :: v160 :: v161 :: v162 :: v163 :: v164 :: v165 :: v166 :: v167 :: v168 :: v169 :: v170 :: v171 :: v172 :: v173 :: v174 :: v175 :: v176 :: v177 :: v178 :: v179 :: v180 :: v181 :: v182 :: v183 :: v184 :: v185 :: v186 :: v187 :: v188 :: v189 :: v190 :: v191 :: v192 :: v193 :: v194 :: v195 :: v196 :: v197 :: v198 :: v199 :: v200 :: v201 :: v202 :: v203 :: v204 :: v205 :: v206 :: v207 :: v208 :: v209 :: v210 :: v211 :: v212 :: v213 :: v214 :: v215 :: v216 :: v217 :: v218 :: v219 :: v220 :: v221 :: v222 :: v223 :: v224 :: v225 :: v226 :: v227 :: v228 :: v229 :: v230 :: v231 :: v232 :: v233 :: v234 :: v235 :: v236 :: v237 :: v238 :: v239 :: v240 :: []), []⟩ W1 := by
  have a0 := HA.out.cell? 0
  have a1 := HA.out.cell? 1
  have a2 := HA.out.cell? 2
  have a3 := HA.out.cell? 3
  have a4 := HA.out.cell? 4
  have a5 := HA.out.cell? 5
  simp only [List.getElem?_cons_zero, List.getElem?_cons_succ] at a0 a1 a2 a3 a4 a5
  unfold swB bodyB
  dsimp only [cL, cR, cB, Try.f16, Option.getD]
  obtain ⟨i, rfl⟩ : ∃ i : Nat, X = i := ⟨X.toNat, by omega⟩
  obtain ⟨j, rfl⟩ : ∃ j : Nat, Y = j := ⟨Y.toNat, by omega⟩
  have hi : i < P.W := by omega
  have hj : j < P.H := by omega
  have d0 := HWR1.out.head j hj
  have d1 := HWR1.out.rows.cell j i hj hi
  have d2 := HWR1.out.rows.free j i hj
  have hb0 := HWR1.out.glt
  have HPOST := Lib.hid (gp_set (c := cG) (v := !P.f j i) (by rw [← HOP.out]; decide) (by rw [← HOP.out]; decide) HWR1.out hi hj (fun r c hr hc => by
    rw [eff3 HOP.out.symm, ← HX.out, ← HY.out]
    by_cases e : r = j ∧ c = i
    · rw [if_pos e, if_pos (by omega), e.1, e.2]
    · rw [if_neg e, if_neg (by omega)]))
  obtain ⟨rb, hrb⟩ : ∃ rb, rb = R j := ⟨_, rfl⟩
  obtain ⟨v, hv⟩ : ∃ v, v = P.f j i := ⟨_, rfl⟩
  rw [← hrb, ← hv] at HPOST
  rw [← hrb] at d0 d2
  rw [← hrb, ← hv] at d1
  clear hrb hv
  go_wp2_with fail
  go_still_tail 18, (by kernel_rfl)
  repeat still_step
  try refine wpStill_nil ?_
  change wpList _ _ _ _ _ W1.drew
  go_wp2_with fail
  refine Met.intro ?_
  go_step
  refine And.left (b := True) ?_
  go_big_round
  exact ⟨HPOST, trivial⟩
set_option maxRecDepth 100000 in
set_option maxHeartbeats 6400000 in
theorem sw5 {J K' : Act → World → Prop} {Q' : Exit → Act → World → Prop} {w W1 : World} {G E cG : Nat} {R C : Nat → Nat} {P : Pic} {s : Stp} {X Y CC D : Int} {SA : Option Addr} {sn sc : Nat}
    {v0 v1 v2 v3 v4 v5 v7 v8 v11 v12 v13 v14 v15 v16 v17 v18 v19 v20 v21 v22 v23 v24 v25 v26 v27 v28 v29 v30 v31 v32 v33 v34 v35 v36 v37 v38 v39 v40 v41 v42 v43 v44 v45 v46 v47 v48 v49 v50 v51 v52 v53 v54 v55 v56 v57 v58 v59 v60 v61 v62 v63 v64 v65 v66 v67 v68 v69 v70 v71 v72 v73 v74 v75 v76 v77 v78 v79 v80 v81 v82 v83 v84 v85 v86 v87 v88 v89 v90 v91 v92 v93 v94 v95 v96 v97 v98 v99 v100 v101 v102 v103 v104 v105 v106 v107 v108 v109 v110 v111 v112 v113 v114 v115 v116 v117 v118 v119 v120 v121 v122 v123 v124 v125 v126 v127 v128 v129 v130 v131 v132 v133 v134 v135 v136 v137 v138 v139 v140 v141 v142 v143 v144 v145 v146 v147 v148 v149 v150 v151 v152 v153 v154 v155 v156 v157 v158 v159 v160 v161 v162 v163 v164 v165 v166 v167 v168 v169 v170 v171 v172 v173 v174 v175 v176 v177 v178 v179 v180 v181 v182 v183 v184 v185 v186 v187 v188 v189 v190 v191 v192 v193 v194 v195 v196 v197 v198 v199 v200 v201 v202 v203 v204 v205 v206 v207 v208 v209 v210 v211 v212 v213 v214 v215 v216 v217 v218 v219 v220 v221 v222 v223 v224 v225 v226 v227 v228 v229 v230 v231 v232 v233 v234 v235 v236 v237 v238 v239 v240 : Value}
    (hJ : ∀ a' w', (∃ u6 u10 u11 u12 u13 u14 u15 u18 u19 u20 u21 u22 u23 u24 u25 u26 u27 u28 u29 u30 u31 u32 u33 u34 u35 u36 u37 u38 u39 u40 u41 u42 u43 u44 u45 u46 u47 u48 u49 u50 u51 u52 u53 u54 u55 u56 u57 u58 u59 u60 u61 u62 u63 u64 u65 u66 u67 u68 u69 u70 u71 u72 u73 u74 u75 u76 u77 u78 u79 u80 u81 u82 u83 u84 u85 u86 u87 u88 u89 u90 u91 u92 u93 u94 u95 u96 u97 u98 u99 u100 u101 u102 u103 u104 u105 u106 u107 u108 u109 u110 u111 u112 u113 u114 u115 u116 u117 u118 u119 u120 u121 u122 u123 u124 u125 u126 u127 u128 u129 u130 u131 u132 u133 u134 u135 u136 u137 u138 u139 u140 u141 u142 u143 u144 u145 u146 u147 u148 u149 u150 u151 u152 u153 u154 u155 u156 u157 u158 u159 u160 u161 u162 u163 u164 u165 u166 u167 u168 u169 u170 u171 u172 u173 u174 u175 u176 u177 u178 u179 u180 u181 u182 u183 u184 u185 u186 u187 u188 u189 u190 u191 u192 u193 u194 u195 u196 u197 u198 u199 u200 u201 u202 u203 u204 u205 u206 u207 u208 u209 u210 u211 u212 u213 u214 u215 u216 u217 u218 u219 u220 u221 u222 u223 u224 u225 u226 u227 u228 u229 u230 u231 u232 u233 u234 u235 u236 u237 u238 : Value, Hid (GPost w.heap.size G P.H R (s.run P) (s.told P) W1 w' u6 u10) ∧ a' = ⟨List.toArray (v0 :: v1 :: v2 :: v3 :: v4 :: v5 :: u6 :: v7 :: v8 :: .pointer (some ⟨E, 0, none⟩) :: u10 :: u11 :: u12 :: u13 :: u14 :: u15 :: v16 :: v17 :: u18 :: u19 :: u20 :: u21 :: u22 :: u23 :: u24 :: u25 :: u26 :: u27 :: u28 :: u29 :: u30 :: u31 :: u32 :: u33 :: u34 :: u35 :: u36 :: u37 :: u38 :: u39 :: u40 :: u41 :: u42 :: u43 :: u44 :: u45 :: u46 :: u47 :: u48 :: u49 :: u50 :: u51 :: u52 :: u53 :: u54 :: u55 :: u56 :: u57 :: u58 :: u59 :: u60 :: u61 :: u62 :: u63 :: u64 :: u65 :: u66 :: u67 :: u68 :: u69 :: u70 :: u71 :: u72 :: u73 :: u74 :: u75 :: u76 :: u77 :: u78 :: u79 :: u80 :: u81 :: u82 :: u83 :: u84 :: u85 :: u86 :: u87 :: u88 :: u89 :: u90 :: u91 :: u92 :: u93 :: u94 :: u95 :: u96 :: u97 :: u98 :: u99 :: u100 :: u101 :: u102 :: u103 :: u104 :: u105 :: u106 :: u107 :: u108 :: u109 :: u110 :: u111 :: u112 :: u113 :: u114 :: u115 :: u116 :: u117 :: u118 :: u119 :: u120 :: u121 :: u122 :: u123 :: u124 :: u125 :: u126 :: u127 :: u128 :: u129 :: u130 :: u131 :: u132 :: u133 :: u134 :: u135 :: u136 :: u137 :: u138 :: u139 :: u140 :: u141 :: u142 :: u143 :: u144 :: u145 :: u146 :: u147 :: u148 :: u149 :: u150 :: u151 :: u152 :: u153 :: u154 :: u155 :: u156 :: u157 :: u158 :: u159 :: u160 :: u161 :: u162 :: u163 :: u164 :: u165 :: u166 :: u167 :: u168 :: u169 :: u170 :: u171 :: u172 :: u173 :: u174 :: u175 :: u176 :: u177 :: u178 :: u179 :: u180 :: u181 :: u182 :: u183 :: u184 :: u185 :: u186 :: u187 :: u188 :: u189 :: u190 :: u191 :: u192 :: u193 :: u194 :: u195 :: u196 :: u197 :: u198 :: u199 :: u200 :: u201 :: u202 :: u203 :: u204 :: u205 :: u206 :: u207 :: u208 :: u209 :: u210 :: u211 :: u212 :: u213 :: u214 :: u215 :: u216 :: u217 :: u218 :: u219 :: u220 :: u221 :: u222 :: u223 :: u224 :: u225 :: u226 :: u227 :: u228 :: u229 :: u230 :: u231 :: u232 :: u233 :: u234 :: u235 :: u236 :: u237 :: u238 :: v239 :: v240 :: []), []⟩) → J a' w') (hK : ∀ a' w', Met J a' w' → K' a' w')
    (HOP : Hid (5 = s.op)) (HX : Hid (X = s.X)) (HY : Hid (Y = s.Y)) (HC : Hid (CC = s.C)) (HD : Hid (D = s.D))
    (HA : Hid (Arr W1 65 E [.int .i64 5, .int .i64 X, .int .i64 Y, .int .i64 CC, .int .i64 D, .slice SA sn sc]))
    (HWR1 : Hid (WR W1 w.heap.size G P.W (· < P.H) P.f R C)) (HBB : Hid (w.heap.size ≤ W1.heap.size)) (HGE : Hid (G < E ∧ ∀ r, r < P.H → R r < E)) (HL : Hid (Bnd P)) (HBE1 : Hid (Below w.heap.size w W1)) :
    Code.wp Try.prog swB (Exit.then K' Q') ⟨List.toArray (v0 :: v1 :: v2 :: v3 :: v4 :: v5 :: .slice (some ⟨G, 0, none⟩) P.H cG :: v7 :: v8 :: .pointer (some ⟨E, 0, none⟩) :: .bool true :: v11 :: v12 :: v13 :: v14 :: v15 :: v16 :: v17 :: v18 :: v19 :: v20 :: v21 :: v22 :: v23 :: v24 :: v25 :: v26 :: v27 :: v28 :: v29 :: v30 :: v31 :: v32 :: v33 :: v34 :: v35 :: v36 :: v37 :: v38 :: v39 :: v40 :: v41 :: v42 :: v43 :: v44 :: v45 :: v46 :: v47 :: v48 :: v49 :: v50 :: v51 :: v52 :: v53 :: v54 :: v55 :: v56 :: v57 :: v58 :: v59 :: v60 :: v61 :: v62 :: v63 :: v64 :: v65 :: v66 :: v67 :: v68 :: v69 :: v70 :: v71 :: v72 :: v73 :: v74 :: v75 :: v76 :: v77 :: v78 :: v79 :: v80 :: v81 :: v82 :: v83 :: v84 :: v85 :: v86 :: v87 :: v88 :: v89 :: v90 :: v91 :: v92 :: v93 :: v94 :: v95 :: v96 :: v97 :: v98 :: v99 :: v100 :: v101 :: v102 :: v103 :: v104 :: v105 :: v106 :: v107 :: v108 :: v109 :: v110 :: v111 :: v112 :: v113 :: v114 :: v115 :: v116 :: v117 :: v118 :: v119 :: v120 :: v121 :: v122 :: v123 :: v124 :: v125 :: v126 :: v127 :: v128 :: v129 :: v130 :: v131 :: v132 :: v133 :: v134 :: v135 :: v136 :: v137 :: v138 :: v139 :: v140 :: v141 :: v142 :: v143 :: v144 :: v145 :: v146 :: v147 :: v148 :: v149 :: v150 :: v151 :: v152 :: v153 :: v154 :: v155 :: v156 :: v157 :: v158 :: v159 :: v160 :: v161 :: v162 :: v163 :: v164 :: v165 :: v166 :: v167 :: v168 :: v169 :: v170 :: v171 :: v172 :: v173 :: v174 :: v175 :: v176 :: v177 :: v178 :: v179 :: v180 :: v181 :: v182 :: v183 :: v184 :: v185 :: v186 :: v187 :: v188 :: v189 :: v190 :: v191 :: v192 :: v193 :: v194 :: v195 :: v196 :: v197 :: v198 :: v199 :: v200 :: v201 :: v202 :: v203 :: v204 :: v205 :: v206 :: v207 :: v208 :: v209 :: v210 :: v211 :: v212 :: v213 :: v214 :: v215 :: v216 :: v217 :: v218 :: v219 :: v220 :: v221 :: v222 :: v223 :: v224 :: v225 :: v226 :: v227 :: v228 :: v229 :: v230 :: v231 :: v232 :: v233 :: v234 :: v235 :: v236 :: v237 :: v238 :: v239 :: v240 :: []), []⟩ W1 := by
  have a0 := HA.out.cell? 0
  have a1 := HA.out.cell? 1
  have a2 := HA.out.cell? 2
  have a3 := HA.out.cell? 3
  have a4 := HA.out.cell? 4
  have a5 := HA.out.cell? 5
  simp only [List.getElem?_cons_zero, List.getElem?_cons_succ] at a0 a1 a2 a3 a4 a5
  unfold swB bodyB
  dsimp only [cL, cR, cB, Try.f16, Option.getD]
  obtain ⟨cW, hcW⟩ : ∃ n, n = P.W := ⟨_, rfl⟩
  obtain ⟨cH, hcH⟩ : ∃ n, n = P.H := ⟨_, rfl⟩
  have HPW := Lib.hid hcW
  have HPH := Lib.hid hcH
  have HLB : Hid (cW < 1000 ∧ cH < 1000) := Lib.hid ⟨by rw [hcW]; exact HL.out.wl, by rw [hcH]; exact HL.out.hl⟩
  have HWZ : Hid (WR W1 w.heap.size G cW (· < cH) (fun r c => if r < 0 then !P.f r c else P.f r c) R C) := Lib.hid (by rw [hcW, hcH]; exact HWR1.out.congr (fun r c _ _ => by rw [if_neg (by omega)]))
  have HMZ : Hid (Mod (fun q => q = G ∨ ∃ r, r < cH ∧ q = R r) W1 W1) := Lib.hid (Mod.refl _)
  rw [← hcH]
  have hcHl : cH < 1000 := HLB.out.2
  have hcWl : cW < 1000 := HLB.out.1
  clear hcW hcH
  go_wp2_with fail
  go_loopw [13] (fun i wr => ∃ y : Nat, y ≤ cH ∧ i = .int .i64 y ∧ Hid (WR wr w.heap.size G cW (· < cH) (fun r c => if r < y then !P.f r c else P.f r c) R C) ∧ Hid (Mod (fun q => q = G ∨ ∃ r, r < cH ∧ q = R r) W1 wr)) (fun i _ => cH - (intOf i).toNat)
  case atStart => exact ⟨0, by omega, rfl, HWZ, HMZ⟩
  case round =>
    obtain ⟨y, hy, rfl, HW, HM⟩ := hrel
    clear HWZ HMZ
    by_cases hyl : y < cH
    · have HWI : Hid (WR wr w.heap.size G cW (· < cH) (fun r c => if r < y ∨ r = y ∧ c < 0 then !P.f r c else P.f r c) R C) := Lib.hid (HW.out.congr (fun r c _ _ => by
        by_cases e : r < y
        · rw [if_pos e, if_pos (.inl e)]
        · rw [if_neg e, if_neg (by omega)]))
      go_wp2_with fail
      go_loopw [14] (fun i wr => ∃ x : Nat, x ≤ cW ∧ i = .int .i64 x ∧ Hid (WR wr w.heap.size G cW (· < cH) (fun r c => if r < y ∨ r = y ∧ c < x then !P.f r c else P.f r c) R C) ∧ Hid (Mod (fun q => q = G ∨ ∃ r, r < cH ∧ q = R r) W1 wr)) (fun i _ => cW - (intOf i).toNat)
      case atStart => exact ⟨0, by omega, rfl, HWI, HM⟩
      case round =>
        obtain ⟨x, hx, rfl, HW, HM⟩ := hrel
        clear HWI
        have d0 := HW.out.head y hyl
        have hy0 : (0 : Int) ≤ (y : Int) := by omega
        have hy1 : (y : Int) < (cH : Int) := by omega
        by_cases hxl : x < cW
        · have d1 := HW.out.rows.cell y x hyl hxl
          rw [if_neg (by omega)] at d1
          have d2 := HW.out.rows.free y x hyl
          have HW2 := Lib.hid (HW.out.set_ (g := fun r c => if r < y ∨ r = y ∧ c < x + 1 then !P.f r c else P.f r c) y x hyl hxl (!P.f y x) (fun r c hr hc => by
            by_cases e : r = y ∧ c = x
            · rw [if_pos e, if_pos (by omega), e.1, e.2]
            · rw [if_neg e]
              by_cases e2 : r < y ∨ r = y ∧ c < x
              · rw [if_pos e2, if_pos (by omega)]
              · rw [if_neg e2, if_neg (by omega)]))
          have HM2 := Lib.hid (HM.out.setCell (p := ⟨R y, x, none⟩) (.inl (.inr ⟨y, hyl, rfl⟩)) (.bool (!P.f y x)))
          have hx0 : (0 : Int) ≤ (x : Int) := by omega
          have hx1 : (x : Int) < (cW : Int) := by omega
          obtain ⟨rb, hrb⟩ : ∃ rb, rb = R y := ⟨_, rfl⟩
          obtain ⟨v, hv⟩ : ∃ v, v = P.f y x := ⟨_, rfl⟩
          rw [← hrb, ← hv] at HW2 HM2 d1
          rw [← hrb] at d0 d2
          clear hrb hv HW HM
          go_wp2_with fail
          go_still_tail 14, (by kernel_rfl)
          repeat still_step
          try refine wpStill_nil ?_
          change wpList _ _ _ _ _ wr.drew
          go_wp2_with fail
          go_roundw
          case rel => exact ⟨x + 1, by omega, by go_num, Lib.hid (HW2.out.mod (Mod.drew (Mod.refl (S := fun _ => False) _)) (fun h => h) (fun _ _ h => h)), Lib.hid HM2.out.drew⟩
          case measure => simp [intOf]; omega
        · obtain rfl : x = cW := by omega
          have HW2 : Hid (WR wr w.heap.size G x (· < cH) (fun r c => if r < y + 1 then !P.f r c else P.f r c) R C) := Lib.hid (HW.out.congr (fun r c _ hc => by
            by_cases e : r < y ∨ r = y ∧ c < x
            · rw [if_pos e, if_pos (by omega)]
            · rw [if_neg e, if_neg (by omega)]))
          go_wp2_with fail
          go_roundw
          case rel => exact ⟨y + 1, by omega, by go_num, HW2, HM⟩
          case measure => simp [intOf]; omega
    · obtain rfl : y = cH := by omega
      have HPOST : Hid (GPost w.heap.size G P.H R (s.run P) (s.told P) W1 wr (.slice (some ⟨G, 0, none⟩) y cG) (.bool true)) := Lib.hid (by
        have h1 := HW.out
        have h2 := HM.out
        rw [HPW.out, HPH.out] at h1
        rw [HPH.out] at h2 ⊢
        have h3 : WR wr w.heap.size G P.W (· < P.H) (s.eff P) R C := h1.congr (fun r c hr _ => by rw [eff5 HOP.out.symm, if_pos hr])
        have h5 := gp_same (c := cG) (by rw [← HOP.out]; decide) h3 h2
        rw [told_true (by rw [← HOP.out]; decide)] at h5 ⊢
        exact h5)
      go_wp2_with fail
      refine Met.intro ?_
      go_step
      refine And.left (b := True) ?_
      go_big_round
      exact ⟨HPOST, trivial⟩
set_option maxRecDepth 100000 in
set_option maxHeartbeats 6400000 in
theorem sw6 {J K' : Act → World → Prop} {Q' : Exit → Act → World → Prop} {w W1 : World} {G E cG : Nat} {R C : Nat → Nat} {P : Pic} {s : Stp} {X Y CC D : Int} {SA : Option Addr} {sn sc : Nat}
    {v0 v1 v2 v3 v4 v5 v7 v8 v11 v12 v13 v14 v15 v16 v17 v18 v19 v20 v21 v22 v23 v24 v25 v26 v27 v28 v29 v30 v31 v32 v33 v34 v35 v36 v37 v38 v39 v40 v41 v42 v43 v44 v45 v46 v47 v48 v49 v50 v51 v52 v53 v54 v55 v56 v57 v58 v59 v60 v61 v62 v63 v64 v65 v66 v67 v68 v69 v70 v71 v72 v73 v74 v75 v76 v77 v78 v79 v80 v81 v82 v83 v84 v85 v86 v87 v88 v89 v90 v91 v92 v93 v94 v95 v96 v97 v98 v99 v100 v101 v102 v103 v104 v105 v106 v107 v108 v109 v110 v111 v112 v113 v114 v115 v116 v117 v118 v119 v120 v121 v122 v123 v124 v125 v126 v127 v128 v129 v130 v131 v132 v133 v134 v135 v136 v137 v138 v139 v140 v141 v142 v143 v144 v145 v146 v147 v148 v149 v150 v151 v152 v153 v154 v155 v156 v157 v158 v159 v160 v161 v162 v163 v164 v165 v166 v167 v168 v169 v170 v171 v172 v173 v174 v175 v176 v177 v178 v179 v180 v181 v182 v183 v184 v185 v186 v187 v188 v189 v190 v191 v192 v193 v194 v195 v196 v197 v198 v199 v200 v201 v202 v203 v204 v205 v206 v207 v208 v209 v210 v211 v212 v213 v214 v215 v216 v217 v218 v219 v220 v221 v222 v223 v224 v225 v226 v227 v228 v229 v230 v231 v232 v233 v234 v235 v236 v237 v238 v239 v240 : Value}
    (hJ : ∀ a' w', (∃ u6 u10 u11 u12 u13 u14 u15 u18 u19 u20 u21 u22 u23 u24 u25 u26 u27 u28 u29 u30 u31 u32 u33 u34 u35 u36 u37 u38 u39 u40 u41 u42 u43 u44 u45 u46 u47 u48 u49 u50 u51 u52 u53 u54 u55 u56 u57 u58 u59 u60 u61 u62 u63 u64 u65 u66 u67 u68 u69 u70 u71 u72 u73 u74 u75 u76 u77 u78 u79 u80 u81 u82 u83 u84 u85 u86 u87 u88 u89 u90 u91 u92 u93 u94 u95 u96 u97 u98 u99 u100 u101 u102 u103 u104 u105 u106 u107 u108 u109 u110 u111 u112 u113 u114 u115 u116 u117 u118 u119 u120 u121 u122 u123 u124 u125 u126 u127 u128 u129 u130 u131 u132 u133 u134 u135 u136 u137 u138 u139 u140 u141 u142 u143 u144 u145 u146 u147 u148 u149 u150 u151 u152 u153 u154 u155 u156 u157 u158 u159 u160 u161 u162 u163 u164 u165 u166 u167 u168 u169 u170 u171 u172 u173 u174 u175 u176 u177 u178 u179 u180 u181 u182 u183 u184 u185 u186 u187 u188 u189 u190 u191 u192 u193 u194 u195 u196 u197 u198 u199 u200 u201 u202 u203 u204 u205 u206 u207 u208 u209 u210 u211 u212 u213 u214 u215 u216 u217 u218 u219 u220 u221 u222 u223 u224 u225 u226 u227 u228 u229 u230 u231 u232 u233 u234 u235 u236 u237 u238 : Value, Hid (GPost w.heap.size G P.H R (s.run P) (s.told P) W1 w' u6 u10) ∧ a' = ⟨List.toArray (v0 :: v1 :: v2 :: v3 :: v4 :: v5 :: u6 :: v7 :: v8 :: .pointer (some ⟨E, 0, none⟩) :: u10 :: u11 :: u12 :: u13 :: u14 :: u15 :: v16 :: v17 :: u18 :: u19 :: u20 :: u21 :: u22 :: u23 :: u24 :: u25 :: u26 :: u27 :: u28 :: u29 :: u30 :: u31 :: u32 :: u33 :: u34 :: u35 :: u36 :: u37 :: u38 :: u39 :: u40 :: u41 :: u42 :: u43 :: u44 :: u45 :: u46 :: u47 :: u48 :: u49 :: u50 :: u51 :: u52 :: u53 :: u54 :: u55 :: u56 :: u57 :: u58 :: u59 :: u60 :: u61 :: u62 :: u63 :: u64 :: u65 :: u66 :: u67 :: u68 :: u69 :: u70 :: u71 :: u72 :: u73 :: u74 :: u75 :: u76 :: u77 :: u78 :: u79 :: u80 :: u81 :: u82 :: u83 :: u84 :: u85 :: u86 :: u87 :: u88 :: u89 :: u90 :: u91 :: u92 :: u93 :: u94 :: u95 :: u96 :: u97 :: u98 :: u99 :: u100 :: u101 :: u102 :: u103 :: u104 :: u105 :: u106 :: u107 :: u108 :: u109 :: u110 :: u111 :: u112 :: u113 :: u114 :: u115 :: u116 :: u117 :: u118 :: u119 :: u120 :: u121 :: u122 :: u123 :: u124 :: u125 :: u126 :: u127 :: u128 :: u129 :: u130 :: u131 :: u132 :: u133 :: u134 :: u135 :: u136 :: u137 :: u138 :: u139 :: u140 :: u141 :: u142 :: u143 :: u144 :: u145 :: u146 :: u147 :: u148 :: u149 :: u150 :: u151 :: u152 :: u153 :: u154 :: u155 :: u156 :: u157 :: u158 :: u159 :: u160 :: u161 :: u162 :: u163 :: u164 :: u165 :: u166 :: u167 :: u168 :: u169 :: u170 :: u171 :: u172 :: u173 :: u174 :: u175 :: u176 :: u177 :: u178 :: u179 :: u180 :: u181 :: u182 :: u183 :: u184 :: u185 :: u186 :: u187 :: u188 :: u189 :: u190 :: u191 :: u192 :: u193 :: u194 :: u195 :: u196 :: u197 :: u198 :: u199 :: u200 :: u201 :: u202 :: u203 :: u204 :: u205 :: u206 :: u207 :: u208 :: u209 :: u210 :: u211 :: u212 :: u213 :: u214 :: u215 :: u216 :: u217 :: u218 :: u219 :: u220 :: u221 :: u222 :: u223 :: u224 :: u225 :: u226 :: u227 :: u228 :: u229 :: u230 :: u231 :: u232 :: u233 :: u234 :: u235 :: u236 :: u237 :: u238 :: v239 :: v240 :: []), []⟩) → J a' w') (hK : ∀ a' w', Met J a' w' → K' a' w')
    (HOP : Hid (6 = s.op)) (HX : Hid (X = s.X)) (HY : Hid (Y = s.Y)) (HC : Hid (CC = s.C)) (HD : Hid (D = s.D))
    (HA : Hid (Arr W1 65 E [.int .i64 6, .int .i64 X, .int .i64 Y, .int .i64 CC, .int .i64 D, .slice SA sn sc]))
    (HWR1 : Hid (WR W1 w.heap.size G P.W (· < P.H) P.f R C)) (HBB : Hid (w.heap.size ≤ W1.heap.size)) (HGE : Hid (G < E ∧ ∀ r, r < P.H → R r < E)) (HL : Hid (Bnd P)) (HBE1 : Hid (Below w.heap.size w W1)) :
    Code.wp Try.prog swB (Exit.then K' Q') ⟨List.toArray (v0 :: v1 :: v2 :: v3 :: v4 :: v5 :: .slice (some ⟨G, 0, none⟩) P.H cG :: v7 :: v8 :: .pointer (some ⟨E, 0, none⟩) :: .bool true :: v11 :: v12 :: v13 :: v14 :: v15 :: v16 :: v17 :: v18 :: v19 :: v20 :: v21 :: v22 :: v23 :: v24 :: v25 :: v26 :: v27 :: v28 :: v29 :: v30 :: v31 :: v32 :: v33 :: v34 :: v35 :: v36 :: v37 :: v38 :: v39 :: v40 :: v41 :: v42 :: v43 :: v44 :: v45 :: v46 :: v47 :: v48 :: v49 :: v50 :: v51 :: v52 :: v53 :: v54 :: v55 :: v56 :: v57 :: v58 :: v59 :: v60 :: v61 :: v62 :: v63 :: v64 :: v65 :: v66 :: v67 :: v68 :: v69 :: v70 :: v71 :: v72 :: v73 :: v74 :: v75 :: v76 :: v77 :: v78 :: v79 :: v80 :: v81 :: v82 :: v83 :: v84 :: v85 :: v86 :: v87 :: v88 :: v89 :: v90 :: v91 :: v92 :: v93 :: v94 :: v95 :: v96 :: v97 :: v98 :: v99 :: v100 :: v101 :: v102 :: v103 :: v104 :: v105 :: v106 :: v107 :: v108 :: v109 :: v110 :: v111 :: v112 :: v113 :: v114 :: v115 :: v116 :: v117 :: v118 :: v119 :: v120 :: v121 :: v122 :: v123 :: v124 :: v125 :: v126 :: v127 :: v128 :: v129 :: v130 :: v131 :: v132 :: v133 :: v134 :: v135 :: v136 :: v137 :: v138 :: v139 :: v140 :: v141 :: v142 :: v143 :: v144 :: v145 :: v146 :: v147 :: v148 :: v149 :: v150 :: v151 :: v152 :: v153 :: v154 :: v155 :: v156 :: v157 :: v158 :: v159 :: v160 :: v161 :: v162 :: v163 :: v164 :: v165 :: v166 :: v167 :: v168 :: v169 :: v170 :: v171 :: v172 :: v173 :: v174 :: v175 :: v176 :: v177 :: v178 :: v179 :: v180 :: v181 :: v182 :: v183 :: v184 :: v185 :: v186 :: v187 :: v188 :: v189 :: v190 :: v191 :: v192 :: v193 :: v194 :: v195 :: v196 :: v197 :: v198 :: v199 :: v200 :: v201 :: v202 :: v203 :: v204 :: v205 :: v206 :: v207 :: v208 :: v209 :: v210 :: v211 :: v212 :: v213 :: v214 :: v215 :: v216 :: v217 :: v218 :: v219 :: v220 :: v221 :: v222 :: v223 :: v224 :: v225 :: v226 :: v227 :: v228 :: v229 :: v230 :: v231 :: v232 :: v233 :: v234 :: v235 :: v236 :: v237 :: v238 :: v239 :: v240 :: []), []⟩ W1 := by
  have a0 := HA.out.cell? 0
  have a1 := HA.out.cell? 1
  have a2 := HA.out.cell? 2
  have a3 := HA.out.cell? 3
  have a4 := HA.out.cell? 4
  have a5 := HA.out.cell? 5
  simp only [List.getElem?_cons_zero, List.getElem?_cons_succ] at a0 a1 a2 a3 a4 a5
  unfold swB bodyB
  dsimp only [cL, cR, cB, Try.f16, Option.getD]
  have d0 := HWR1.out.head 0 HL.out.h0
  have HZ := Lib.hid (biZeros P.W P.H HL.out.w0 (by have := HL.out.wl; omega) (by have := HL.out.hl; omega) W1)
  have hp1 : (0 : Int) < (P.H : Int) := by have := HL.out.h0; omega
  obtain ⟨rb, hrb⟩ : ∃ rb, rb = R 0 := ⟨_, rfl⟩
  rw [← hrb] at d0
  clear hrb
  go_wp2_with fail
  refine HZ.out.mono ?_
  rintro e w3 ⟨G2, R2, C2, rfl, hwr, hbe⟩
  have HPOST : Hid (GPost w.heap.size G P.H R (s.run P) (s.told P) W1 w3 (.slice (some ⟨G2, 0, none⟩) P.H P.H) (.bool true)) := Lib.hid (by
    have e : s.run P = ⟨P.W, P.H, s.eff P⟩ := by unfold Stp.run; rw [if_neg (by rw [← HOP.out]; decide), if_neg (by rw [← HOP.out]; decide)]
    have h1 : WR w3 W1.heap.size G2 (s.run P).W (· < (s.run P).H) (s.run P).f R2 C2 := by rw [e]; exact hwr.out.congr (fun r c _ _ => (eff6 HOP.out.symm r c).symm)
    have h5 := gp_new (base := w.heap.size) (G := G) (R := R) (c := P.H) h1 HBB.out hbe
    rw [told_true (by rw [← HOP.out]; decide)] at h5 ⊢
    rw [show (s.run P).H = P.H by rw [e]] at h5
    exact h5)
  clear hwr hbe
  go_wp2_with fail
  refine Met.intro ?_
  go_step
  refine And.left (b := True) ?_
  go_big_round
  exact ⟨HPOST, trivial⟩
set_option maxRecDepth 100000 in
set_option maxHeartbeats 6400000 in
theorem sw7 {J K' : Act → World → Prop} {Q' : Exit → Act → World → Prop} {w W1 : World} {G E cG : Nat} {R C : Nat → Nat} {P : Pic} {s : Stp} {X Y CC D : Int} {SA : Option Addr} {sn sc : Nat}
    {v0 v1 v2 v3 v4 v5 v7 v8 v11 v12 v13 v14 v15 v16 v17 v18 v19 v20 v21 v22 v23 v24 v25 v26 v27 v28 v29 v30 v31 v32 v33 v34 v35 v36 v37 v38 v39 v40 v41 v42 v43 v44 v45 v46 v47 v48 v49 v50 v51 v52 v53 v54 v55 v56 v57 v58 v59 v60 v61 v62 v63 v64 v65 v66 v67 v68 v69 v70 v71 v72 v73 v74 v75 v76 v77 v78 v79 v80 v81 v82 v83 v84 v85 v86 v87 v88 v89 v90 v91 v92 v93 v94 v95 v96 v97 v98 v99 v100 v101 v102 v103 v104 v105 v106 v107 v108 v109 v110 v111 v112 v113 v114 v115 v116 v117 v118 v119 v120 v121 v122 v123 v124 v125 v126 v127 v128 v129 v130 v131 v132 v133 v134 v135 v136 v137 v138 v139 v140 v141 v142 v143 v144 v145 v146 v147 v148 v149 v150 v151 v152 v153 v154 v155 v156 v157 v158 v159 v160 v161 v162 v163 v164 v165 v166 v167 v168 v169 v170 v171 v172 v173 v174 v175 v176 v177 v178 v179 v180 v181 v182 v183 v184 v185 v186 v187 v188 v189 v190 v191 v192 v193 v194 v195 v196 v197 v198 v199 v200 v201 v202 v203 v204 v205 v206 v207 v208 v209 v210 v211 v212 v213 v214 v215 v216 v217 v218 v219 v220 v221 v222 v223 v224 v225 v226 v227 v228 v229 v230 v231 v232 v233 v234 v235 v236 v237 v238 v239 v240 : Value}
    (hJ : ∀ a' w', (∃ u6 u10 u11 u12 u13 u14 u15 u18 u19 u20 u21 u22 u23 u24 u25 u26 u27 u28 u29 u30 u31 u32 u33 u34 u35 u36 u37 u38 u39 u40 u41 u42 u43 u44 u45 u46 u47 u48 u49 u50 u51 u52 u53 u54 u55 u56 u57 u58 u59 u60 u61 u62 u63 u64 u65 u66 u67 u68 u69 u70 u71 u72 u73 u74 u75 u76 u77 u78 u79 u80 u81 u82 u83 u84 u85 u86 u87 u88 u89 u90 u91 u92 u93 u94 u95 u96 u97 u98 u99 u100 u101 u102 u103 u104 u105 u106 u107 u108 u109 u110 u111 u112 u113 u114 u115 u116 u117 u118 u119 u120 u121 u122 u123 u124 u125 u126 u127 u128 u129 u130 u131 u132 u133 u134 u135 u136 u137 u138 u139 u140 u141 u142 u143 u144 u145 u146 u147 u148 u149 u150 u151 u152 u153 u154 u155 u156 u157 u158 u159 u160 u161 u162 u163 u164 u165 u166 u167 u168 u169 u170 u171 u172 u173 u174 u175 u176 u177 u178 u179 u180 u181 u182 u183 u184 u185 u186 u187 u188 u189 u190 u191 u192 u193 u194 u195 u196 u197 u198 u199 u200 u201 u202 u203 u204 u205 u206 u207 u208 u209 u210 u211 u212 u213 u214 u215 u216 u217 u218 u219 u220 u221 u222 u223 u224 u225 u226 u227 u228 u229 u230 u231 u232 u233 u234 u235 u236 u237 u238 : Value, Hid (GPost w.heap.size G P.H R (s.run P) (s.told P) W1 w' u6 u10) ∧ a' = ⟨List.toArray (v0 :: v1 :: v2 :: v3 :: v4 :: v5 :: u6 :: v7 :: v8 :: .pointer (some ⟨E, 0, none⟩) :: u10 :: u11 :: u12 :: u13 :: u14 :: u15 :: v16 :: v17 :: u18 :: u19 :: u20 :: u21 :: u22 :: u23 :: u24 :: u25 :: u26 :: u27 :: u28 :: u29 :: u30 :: u31 :: u32 :: u33 :: u34 :: u35 :: u36 :: u37 :: u38 :: u39 :: u40 :: u41 :: u42 :: u43 :: u44 :: u45 :: u46 :: u47 :: u48 :: u49 :: u50 :: u51 :: u52 :: u53 :: u54 :: u55 :: u56 :: u57 :: u58 :: u59 :: u60 :: u61 :: u62 :: u63 :: u64 :: u65 :: u66 :: u67 :: u68 :: u69 :: u70 :: u71 :: u72 :: u73 :: u74 :: u75 :: u76 :: u77 :: u78 :: u79 :: u80 :: u81 :: u82 :: u83 :: u84 :: u85 :: u86 :: u87 :: u88 :: u89 :: u90 :: u91 :: u92 :: u93 :: u94 :: u95 :: u96 :: u97 :: u98 :: u99 :: u100 :: u101 :: u102 :: u103 :: u104 :: u105 :: u106 :: u107 :: u108 :: u109 :: u110 :: u111 :: u112 :: u113 :: u114 :: u115 :: u116 :: u117 :: u118 :: u119 :: u120 :: u121 :: u122 :: u123 :: u124 :: u125 :: u126 :: u127 :: u128 :: u129 :: u130 :: u131 :: u132 :: u133 :: u134 :: u135 :: u136 :: u137 :: u138 :: u139 :: u140 :: u141 :: u142 :: u143 :: u144 :: u145 :: u146 :: u147 :: u148 :: u149 :: u150 :: u151 :: u152 :: u153 :: u154 :: u155 :: u156 :: u157 :: u158 :: u159 :: u160 :: u161 :: u162 :: u163 :: u164 :: u165 :: u166 :: u167 :: u168 :: u169 :: u170 :: u171 :: u172 :: u173 :: u174 :: u175 :: u176 :: u177 :: u178 :: u179 :: u180 :: u181 :: u182 :: u183 :: u184 :: u185 :: u186 :: u187 :: u188 :: u189 :: u190 :: u191 :: u192 :: u193 :: u194 :: u195 :: u196 :: u197 :: u198 :: u199 :: u200 :: u201 :: u202 :: u203 :: u204 :: u205 :: u206 :: u207 :: u208 :: u209 :: u210 :: u211 :: u212 :: u213 :: u214 :: u215 :: u216 :: u217 :: u218 :: u219 :: u220 :: u221 :: u222 :: u223 :: u224 :: u225 :: u226 :: u227 :: u228 :: u229 :: u230 :: u231 :: u232 :: u233 :: u234 :: u235 :: u236 :: u237 :: u238 :: v239 :: v240 :: []), []⟩) → J a' w') (hK : ∀ a' w', Met J a' w' → K' a' w')
    (HOP : Hid (7 = s.op)) (HX : Hid (X = s.X)) (HY : Hid (Y = s.Y)) (HC : Hid (CC = s.C)) (HD : Hid (D = s.D))
    (HA : Hid (Arr W1 65 E [.int .i64 7, .int .i64 X, .int .i64 Y, .int .i64 CC, .int .i64 D, .slice SA sn sc]))
    (HWR1 : Hid (WR W1 w.heap.size G P.W (· < P.H) P.f R C)) (HBB : Hid (w.heap.size ≤ W1.heap.size)) (HGE : Hid (G < E ∧ ∀ r, r < P.H → R r < E)) (HL : Hid (Bnd P)) (HBE1 : Hid (Below w.heap.size w W1)) (hw : P.W % 32 ≠ 0) :
    Code.wp Try.prog swB (Exit.then K' Q') ⟨List.toArray (v0 :: v1 :: v2 :: v3 :: v4 :: v5 :: .slice (some ⟨G, 0, none⟩) P.H cG :: v7 :: v8 :: .pointer (some ⟨E, 0, none⟩) :: .bool true :: v11 :: v12 :: v13 :: v14 :: v15 :: v16 :: v17 :: v18 :: v19 :: v20 :: v21 :: v22 :: v23 :: v24 :: v25 :: v26 :: v27 :: v28 :: v29 :: v30 :: v31 :: v32 :: v33 :: v34 :: v35 :: v36 :: v37 :: v38 :: v39 :: v40 :: v41 :: v42 :: v43 :: v44 :: v45 :: v46 :: v47 :: v48 :: v49 :: v50 :: v51 :: v52 :: v53 :: v54 :: v55 :: v56 :: v57 :: v58 :: v59 :: v60 :: v61 :: v62 :: v63 :: v64 :: v65 :: v66 :: v67 :: v68 :: v69 :: v70 :: v71 :: v72 :: v73 :: v74 :: v75 :: v76 :: v77 :: v78 :: v79 :: v80 :: v81 :: v82 :: v83 :: v84 :: v85 :: v86 :: v87 :: v88 :: v89 :: v90 :: v91 :: v92 :: v93 :: v94 :: v95 :: v96 :: v97 :: v98 :: v99 :: v100 :: v101 :: v102 :: v103 :: v104 :: v105 :: v106 :: v107 :: v108 :: v109 :: v110 :: v111 :: v112 :: v113 :: v114 :: v115 :: v116 :: v117 :: v118 :: v119 :: v120 :: v121 :: v122 :: v123 :: v124 :: v125 :: v126 :: v127 :: v128 :: v129 :: v130 :: v131 :: v132 :: v133 :: v134 :: v135 :: v136 :: v137 :: v138 :: v139 :: v140 :: v141 :: v142 :: v143 :: v144 :: v145 :: v146 :: v147 :: v148 :: v149 :: v150 :: v151 :: v152 :: v153 :: v154 :: v155 :: v156 :: v157 :: v158 :: v159 :: v160 :: v161 :: v162 :: v163 :: v164 :: v165 :: v166 :: v167 :: v168 :: v169 :: v170 :: v171 :: v172 :: v173 :: v174 :: v175 :: v176 :: v177 :: v178 :: v179 :: v180 :: v181 :: v182 :: v183 :: v184 :: v185 :: v186 :: v187 :: v188 :: v189 :: v190 :: v191 :: v192 :: v193 :: v194 :: v195 :: v196 :: v197 :: v198 :: v199 :: v200 :: v201 :: v202 :: v203 :: v204 :: v205 :: v206 :: v207 :: v208 :: v209 :: v210 :: v211 :: v212 :: v213 :: v214 :: v215 :: v216 :: v217 :: v218 :: v219 :: v220 :: v221 :: v222 :: v223 :: v224 :: v225 :: v226 :: v227 :: v228 :: v229 :: v230 :: v231 :: v232 :: v233 :: v234 :: v235 :: v236 :: v237 :: v238 :: v239 :: v240 :: []), []⟩ W1 := by
  have a0 := HA.out.cell? 0
  have a1 := HA.out.cell? 1
  have a2 := HA.out.cell? 2
  have a3 := HA.out.cell? 3
  have a4 := HA.out.cell? 4
  have a5 := HA.out.cell? 5
  simp only [List.getElem?_cons_zero, List.getElem?_cons_succ] at a0 a1 a2 a3 a4 a5
  unfold swB bodyB
  dsimp only [cL, cR, cB, Try.f16, Option.getD]
  have HT1 := Lib.hid (biTurned P.H P.W HL.out.h0 HL.out.w0 (by have := HL.out.hl; omega) (by have := HL.out.wl; omega) P.f (some ⟨G, 0, none⟩) cG W1 HWR1.out.rows2)
  clear hw
  go_wp2_with fail
  refine HT1.out.mono ?_
  rintro e w3 ⟨G2, R2, C2, rfl, hwr, hbe⟩
  have HT2 := Lib.hid (biTurned P.W P.H HL.out.w0 HL.out.h0 (by have := HL.out.wl; omega) (by have := HL.out.hl; omega) _ (some ⟨G2, 0, none⟩) P.W w3 hwr.out.rows2)
  have HBE3 := Lib.hid hbe
  clear hwr hbe
  go_wp2_with fail
  refine HT2.out.mono ?_
  rintro e w4 ⟨G3, R3, C3, rfl, hwr4, hbe4⟩
  have HPOST : Hid (GPost w.heap.size G P.H R (s.run P) (s.told P) W1 w4 (.slice (some ⟨G3, 0, none⟩) P.H P.H) (.bool true)) := Lib.hid (by
    have e : s.run P = ⟨P.W, P.H, s.eff P⟩ := by unfold Stp.run; rw [if_neg (by rw [← HOP.out]; decide), if_neg (by rw [← HOP.out]; decide)]
    have h1 : WR w4 W1.heap.size G3 (s.run P).W (· < (s.run P).H) (s.run P).f R3 C3 := by rw [e]; exact (hwr4.out.congr (fun r c _ _ => (eff7 HOP.out.symm r c).symm)).base_ HBE3.out.size
    have h5 := gp_new (base := w.heap.size) (G := G) (R := R) (c := P.H) h1 HBB.out (HBE3.out.trans (hbe4.mono HBE3.out.size))
    rw [told_true (by rw [← HOP.out]; decide)] at h5 ⊢
    rw [show (s.run P).H = P.H by rw [e]] at h5
    exact h5)
  clear hwr4 hbe4
  go_wp2_with fail
  refine Met.intro ?_
  go_step
  refine And.left (b := True) ?_
  go_big_round
  exact ⟨HPOST, trivial⟩
set_option maxRecDepth 100000 in
set_option maxHeartbeats 6400000 in
theorem sw8 {J K' : Act → World → Prop} {Q' : Exit → Act → World → Prop} {w W1 : World} {G E cG : Nat} {R C : Nat → Nat} {P : Pic} {s : Stp} {X Y CC D : Int} {SA : Option Addr} {sn sc : Nat}
    {v0 v1 v2 v3 v4 v5 v7 v8 v11 v12 v13 v14 v15 v16 v17 v18 v19 v20 v21 v22 v23 v24 v25 v26 v27 v28 v29 v30 v31 v32 v33 v34 v35 v36 v37 v38 v39 v40 v41 v42 v43 v44 v45 v46 v47 v48 v49 v50 v51 v52 v53 v54 v55 v56 v57 v58 v59 v60 v61 v62 v63 v64 v65 v66 v67 v68 v69 v70 v71 v72 v73 v74 v75 v76 v77 v78 v79 v80 v81 v82 v83 v84 v85 v86 v87 v88 v89 v90 v91 v92 v93 v94 v95 v96 v97 v98 v99 v100 v101 v102 v103 v104 v105 v106 v107 v108 v109 v110 v111 v112 v113 v114 v115 v116 v117 v118 v119 v120 v121 v122 v123 v124 v125 v126 v127 v128 v129 v130 v131 v132 v133 v134 v135 v136 v137 v138 v139 v140 v141 v142 v143 v144 v145 v146 v147 v148 v149 v150 v151 v152 v153 v154 v155 v156 v157 v158 v159 v160 v161 v162 v163 v164 v165 v166 v167 v168 v169 v170 v171 v172 v173 v174 v175 v176 v177 v178 v179 v180 v181 v182 v183 v184 v185 v186 v187 v188 v189 v190 v191 v192 v193 v194 v195 v196 v197 v198 v199 v200 v201 v202 v203 v204 v205 v206 v207 v208 v209 v210 v211 v212 v213 v214 v215 v216 v217 v218 v219 v220 v221 v222 v223 v224 v225 v226 v227 v228 v229 v230 v231 v232 v233 v234 v235 v236 v237 v238 v239 v240 : Value}
    (hJ : ∀ a' w', (∃ u6 u10 u11 u12 u13 u14 u15 u18 u19 u20 u21 u22 u23 u24 u25 u26 u27 u28 u29 u30 u31 u32 u33 u34 u35 u36 u37 u38 u39 u40 u41 u42 u43 u44 u45 u46 u47 u48 u49 u50 u51 u52 u53 u54 u55 u56 u57 u58 u59 u60 u61 u62 u63 u64 u65 u66 u67 u68 u69 u70 u71 u72 u73 u74 u75 u76 u77 u78 u79 u80 u81 u82 u83 u84 u85 u86 u87 u88 u89 u90 u91 u92 u93 u94 u95 u96 u97 u98 u99 u100 u101 u102 u103 u104 u105 u106 u107 u108 u109 u110 u111 u112 u113 u114 u115 u116 u117 u118 u119 u120 u121 u122 u123 u124 u125 u126 u127 u128 u129 u130 u131 u132 u133 u134 u135 u136 u137 u138 u139 u140 u141 u142 u143 u144 u145 u146 u147 u148 u149 u150 u151 u152 u153 u154 u155 u156 u157 u158 u159 u160 u161 u162 u163 u164 u165 u166 u167 u168 u169 u170 u171 u172 u173 u174 u175 u176 u177 u178 u179 u180 u181 u182 u183 u184 u185 u186 u187 u188 u189 u190 u191 u192 u193 u194 u195 u196 u197 u198 u199 u200 u201 u202 u203 u204 u205 u206 u207 u208 u209 u210 u211 u212 u213 u214 u215 u216 u217 u218 u219 u220 u221 u222 u223 u224 u225 u226 u227 u228 u229 u230 u231 u232 u233 u234 u235 u236 u237 u238 : Value, Hid (GPost w.heap.size G P.H R (s.run P) (s.told P) W1 w' u6 u10) ∧ a' = ⟨List.toArray (v0 :: v1 :: v2 :: v3 :: v4 :: v5 :: u6 :: v7 :: v8 :: .pointer (some ⟨E, 0, none⟩) :: u10 :: u11 :: u12 :: u13 :: u14 :: u15 :: v16 :: v17 :: u18 :: u19 :: u20 :: u21 :: u22 :: u23 :: u24 :: u25 :: u26 :: u27 :: u28 :: u29 :: u30 :: u31 :: u32 :: u33 :: u34 :: u35 :: u36 :: u37 :: u38 :: u39 :: u40 :: u41 :: u42 :: u43 :: u44 :: u45 :: u46 :: u47 :: u48 :: u49 :: u50 :: u51 :: u52 :: u53 :: u54 :: u55 :: u56 :: u57 :: u58 :: u59 :: u60 :: u61 :: u62 :: u63 :: u64 :: u65 :: u66 :: u67 :: u68 :: u69 :: u70 :: u71 :: u72 :: u73 :: u74 :: u75 :: u76 :: u77 :: u78 :: u79 :: u80 :: u81 :: u82 :: u83 :: u84 :: u85 :: u86 :: u87 :: u88 :: u89 :: u90 :: u91 :: u92 :: u93 :: u94 :: u95 :: u96 :: u97 :: u98 :: u99 :: u100 :: u101 :: u102 :: u103 :: u104 :: u105 :: u106 :: u107 :: u108 :: u109 :: u110 :: u111 :: u112 :: u113 :: u114 :: u115 :: u116 :: u117 :: u118 :: u119 :: u120 :: u121 :: u122 :: u123 :: u124 :: u125 :: u126 :: u127 :: u128 :: u129 :: u130 :: u131 :: u132 :: u133 :: u134 :: u135 :: u136 :: u137 :: u138 :: u139 :: u140 :: u141 :: u142 :: u143 :: u144 :: u145 :: u146 :: u147 :: u148 :: u149 :: u150 :: u151 :: u152 :: u153 :: u154 :: u155 :: u156 :: u157 :: u158 :: u159 :: u160 :: u161 :: u162 :: u163 :: u164 :: u165 :: u166 :: u167 :: u168 :: u169 :: u170 :: u171 :: u172 :: u173 :: u174 :: u175 :: u176 :: u177 :: u178 :: u179 :: u180 :: u181 :: u182 :: u183 :: u184 :: u185 :: u186 :: u187 :: u188 :: u189 :: u190 :: u191 :: u192 :: u193 :: u194 :: u195 :: u196 :: u197 :: u198 :: u199 :: u200 :: u201 :: u202 :: u203 :: u204 :: u205 :: u206 :: u207 :: u208 :: u209 :: u210 :: u211 :: u212 :: u213 :: u214 :: u215 :: u216 :: u217 :: u218 :: u219 :: u220 :: u221 :: u222 :: u223 :: u224 :: u225 :: u226 :: u227 :: u228 :: u229 :: u230 :: u231 :: u232 :: u233 :: u234 :: u235 :: u236 :: u237 :: u238 :: v239 :: v240 :: []), []⟩) → J a' w') (hK : ∀ a' w', Met J a' w' → K' a' w')
    (HOP : Hid (8 = s.op)) (HX : Hid (X = s.X)) (HY : Hid (Y = s.Y)) (HC : Hid (CC = s.C)) (HD : Hid (D = s.D))
    (HA : Hid (Arr W1 65 E [.int .i64 8, .int .i64 X, .int .i64 Y, .int .i64 CC, .int .i64 D, .slice SA sn sc]))
    (HWR1 : Hid (WR W1 w.heap.size G P.W (· < P.H) P.f R C)) (HBB : Hid (w.heap.size ≤ W1.heap.size)) (HGE : Hid (G < E ∧ ∀ r, r < P.H → R r < E)) (HL : Hid (Bnd P)) (HBE1 : Hid (Below w.heap.size w W1)) :
    Code.wp Try.prog swB (Exit.then K' Q') ⟨List.toArray (v0 :: v1 :: v2 :: v3 :: v4 :: v5 :: .slice (some ⟨G, 0, none⟩) P.H cG :: v7 :: v8 :: .pointer (some ⟨E, 0, none⟩) :: .bool true :: v11 :: v12 :: v13 :: v14 :: v15 :: v16 :: v17 :: v18 :: v19 :: v20 :: v21 :: v22 :: v23 :: v24 :: v25 :: v26 :: v27 :: v28 :: v29 :: v30 :: v31 :: v32 :: v33 :: v34 :: v35 :: v36 :: v37 :: v38 :: v39 :: v40 :: v41 :: v42 :: v43 :: v44 :: v45 :: v46 :: v47 :: v48 :: v49 :: v50 :: v51 :: v52 :: v53 :: v54 :: v55 :: v56 :: v57 :: v58 :: v59 :: v60 :: v61 :: v62 :: v63 :: v64 :: v65 :: v66 :: v67 :: v68 :: v69 :: v70 :: v71 :: v72 :: v73 :: v74 :: v75 :: v76 :: v77 :: v78 :: v79 :: v80 :: v81 :: v82 :: v83 :: v84 :: v85 :: v86 :: v87 :: v88 :: v89 :: v90 :: v91 :: v92 :: v93 :: v94 :: v95 :: v96 :: v97 :: v98 :: v99 :: v100 :: v101 :: v102 :: v103 :: v104 :: v105 :: v106 :: v107 :: v108 :: v109 :: v110 :: v111 :: v112 :: v113 :: v114 :: v115 :: v116 :: v117 :: v118 :: v119 :: v120 :: v121 :: v122 :: v123 :: v124 :: v125 :: v126 :: v127 :: v128 :: v129 :: v130 :: v131 :: v132 :: v133 :: v134 :: v135 :: v136 :: v137 :: v138 :: v139 :: v140 :: v141 :: v142 :: v143 :: v144 :: v145 :: v146 :: v147 :: v148 :: v149 :: v150 :: v151 :: v152 :: v153 :: v154 :: v155 :: v156 :: v157 :: v158 :: v159 :: v160 :: v161 :: v162 :: v163 :: v164 :: v165 :: v166 :: v167 :: v168 :: v169 :: v170 :: v171 :: v172 :: v173 :: v174 :: v175 :: v176 :: v177 :: v178 :: v179 :: v180 :: v181 :: v182 :: v183 :: v184 :: v185 :: v186 :: v187 :: v188 :: v189 :: v190 :: v191 :: v192 :: v193 :: v194 :: v195 :: v196 :: v197 :: v198 :: v199 :: v200 :: v201 :: v202 :: v203 :: v204 :: v205 :: v206 :: v207 :: v208 :: v209 :: v210 :: v211 :: v212 :: v213 :: v214 :: v215 :: v216 :: v217 :: v218 :: v219 :: v220 :: v221 :: v222 :: v223 :: v224 :: v225 :: v226 :: v227 :: v228 :: v229 :: v230 :: v231 :: v232 :: v233 :: v234 :: v235 :: v236 :: v237 :: v238 :: v239 :: v240 :: []), []⟩ W1 := by
  have a0 := HA.out.cell? 0
  have a1 := HA.out.cell? 1
  have a2 := HA.out.cell? 2
  have a3 := HA.out.cell? 3
  have a4 := HA.out.cell? 4
  have a5 := HA.out.cell? 5
  simp only [List.getElem?_cons_zero, List.getElem?_cons_succ] at a0 a1 a2 a3 a4 a5
  unfold swB bodyB
  dsimp only [cL, cR, cB, Try.f16, Option.getD]
  have HT1 := Lib.hid (biTurned P.H P.W HL.out.h0 HL.out.w0 (by have := HL.out.hl; omega) (by have := HL.out.wl; omega) P.f (some ⟨G, 0, none⟩) cG W1 HWR1.out.rows2)
  go_wp2_with fail
  refine HT1.out.mono ?_
  rintro e w3 ⟨G2, R2, C2, rfl, hwr, hbe⟩
  have HPOST : Hid (GPost w.heap.size G P.H R (s.run P) (s.told P) W1 w3 (.slice (some ⟨G2, 0, none⟩) P.W P.W) (.bool true)) := Lib.hid (by
    have e : s.run P = ⟨P.H, P.W, s.eff P⟩ := by unfold Stp.run; rw [if_pos HOP.out.symm, if_pos HOP.out.symm]
    have h1 : WR w3 W1.heap.size G2 (s.run P).W (· < (s.run P).H) (s.run P).f R2 C2 := by rw [e]; exact hwr.out.congr (fun r c _ _ => (eff8 HOP.out.symm r c).symm)
    have h5 := gp_new (base := w.heap.size) (G := G) (R := R) (c := P.W) h1 HBB.out hbe
    rw [told_true (by rw [← HOP.out]; decide)] at h5 ⊢
    rw [show (s.run P).H = P.W by rw [e]] at h5
    exact h5)
  clear hwr hbe
  go_wp2_with fail
  refine Met.intro ?_
  go_step
  refine And.left (b := True) ?_
  go_big_round
  exact ⟨HPOST, trivial⟩
end Go.Proofs.Ytcfcbcjaiplllaa
