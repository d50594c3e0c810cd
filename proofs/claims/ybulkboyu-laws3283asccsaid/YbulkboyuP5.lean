import Derived.Test.YbulkboyuP7
namespace Go.Proofs.Ybulkboyu.scc
open Go.ChangeShapes Go.WideShapes Go.ChangeAt Go.RowKit Go.Shelf

set_option maxRecDepth 100000 in
set_option maxHeartbeats 400000 in
theorem p6 (w : World) (n gc : Nat) (a0 : Option Addr) (cap0 : Nat) (ea : Nat → Option Addr) (el ec : Nat → Nat) (tg : Nat → Nat → Int) (co : Nat → Int) (W : World) (hn : n ≤ 256) (hA : Adj n a0 ea el ec tg W) (hg : gc < W.heap.size) (hc : Ir n gc co W) (hB : Below w.heap.size w W)
    (hE : ∀ u t, Ed n el tg u t → co t ≤ co u) (hS : ∀ i j, i < n → j < n → (co i = co j ↔ R (Ed n el tg) i j ∧ R (Ed n el tg) j i)) (v1 v2 v4 v5 v6 v7 v8 v9 v10 v11 v12 v14 v15 v16 v17 v18 v19 v20 v21 v22 v23 v24 v25 v26 v27 v28 v29 v30 v31 v32 v33 v34 v35 v36 v37 v38 v39 v40 v41 v42 v43 v44 v45 v46 v47 v48 v49 v50 v51 v52 v53 v54 v55 v56 v57 v58 v59 v60 v61 v62 v63 v64 v65 v66 v67 v68 v69 v70 v71 v72 v73 v74 v75 v76 v77 v78 v79 v80 v81 v82 v83 v84 v85 v86 v87 v88 v89 v90 v91 v92 v93 v94 v95 v96 v97 v98 v99 v100 v101 v102 v103 v104 v105 v106 v107 v108 v109 v110 v111 v112 v113 v114 v115 v116 v117 v118 v119 v120 v121 v122 v123 v124 v125 v126 v127 v128 v129 v130 v131 v132 v133 v134 v135 v136 v137 v138 v139 v140 v141 v142 v143 v144 v145 v146 v147 v148 v149 v150 v151 v152 v153 v154 v155 v156 v157 v158 v159 v160 v161 v162 v163 v164 v165 v166 v167 v168 v169 v170 v171 v172 v173 v174 v175 v176 v177 v178 v179 v180 v181 v182 v183 v184 v185 v186 v187 v188 v189 v190 v191 v192 v193 v194 v195 v196 v197 v198 v199 v200 v201 v202 v203 v204 v205 v206 v207 v208 v209 v210 v211 v212 v213 v214 v215 v216 v217 v218 v219 v220 v221 v222 v223 v224 v225 v226 v227 v228 v229 : Value) :
    Code.wp Yba.prog (tailN 13 (Yba.f3.body.getD .skip)) (bodyPost Yba.prog Yba.f3 (Rl w)) { tmps := List.toArray (.slice a0 n cap0 :: v1 :: v2 :: .int .i64 (n : Int) :: v4 :: v5 :: v6 :: v7 :: v8 :: v9 :: v10 :: v11 :: v12 :: .slice (some ⟨gc, 0, none⟩) n n :: v14 :: v15 :: v16 :: v17 :: v18 :: v19 :: v20 :: v21 :: v22 :: v23 :: v24 :: v25 :: v26 :: v27 :: v28 :: v29 :: v30 :: v31 :: v32 :: v33 :: v34 :: v35 :: v36 :: v37 :: v38 :: v39 :: v40 :: v41 :: v42 :: v43 :: v44 :: v45 :: v46 :: v47 :: v48 :: v49 :: v50 :: v51 :: v52 :: v53 :: v54 :: v55 :: v56 :: v57 :: v58 :: v59 :: v60 :: v61 :: v62 :: v63 :: v64 :: v65 :: v66 :: v67 :: v68 :: v69 :: v70 :: v71 :: v72 :: v73 :: v74 :: v75 :: v76 :: v77 :: v78 :: v79 :: v80 :: v81 :: v82 :: v83 :: v84 :: v85 :: v86 :: v87 :: v88 :: v89 :: v90 :: v91 :: v92 :: v93 :: v94 :: v95 :: v96 :: v97 :: v98 :: v99 :: v100 :: v101 :: v102 :: v103 :: v104 :: v105 :: v106 :: v107 :: v108 :: v109 :: v110 :: v111 :: v112 :: v113 :: v114 :: v115 :: v116 :: v117 :: v118 :: v119 :: v120 :: v121 :: v122 :: v123 :: v124 :: v125 :: v126 :: v127 :: v128 :: v129 :: v130 :: v131 :: v132 :: v133 :: v134 :: v135 :: v136 :: v137 :: v138 :: v139 :: v140 :: v141 :: v142 :: v143 :: v144 :: v145 :: v146 :: v147 :: v148 :: v149 :: v150 :: v151 :: v152 :: v153 :: v154 :: v155 :: v156 :: v157 :: v158 :: v159 :: v160 :: v161 :: v162 :: v163 :: v164 :: v165 :: v166 :: v167 :: v168 :: v169 :: v170 :: v171 :: v172 :: v173 :: v174 :: v175 :: v176 :: v177 :: v178 :: v179 :: v180 :: v181 :: v182 :: v183 :: v184 :: v185 :: v186 :: v187 :: v188 :: v189 :: v190 :: v191 :: v192 :: v193 :: v194 :: v195 :: v196 :: v197 :: v198 :: v199 :: v200 :: v201 :: v202 :: v203 :: v204 :: v205 :: v206 :: v207 :: v208 :: v209 :: v210 :: v211 :: v212 :: v213 :: v214 :: v215 :: v216 :: v217 :: v218 :: v219 :: v220 :: v221 :: v222 :: v223 :: v224 :: v225 :: v226 :: v227 :: v228 :: v229 :: []), defers := [] } W := by
  conv => arg 2; whnf
  have hz := hB.size
  have hcall := reach_any n a0 cap0 ea el ec tg W hn hA
  go_upto_region 54 with fail
  rename_i K2 hK2
  have HK : Hid _ := hK2
  clear hK2
  go_wp2_with (first | (go_at_call 8; refine hcall.mono ?_; rintro e W2 ⟨rfl, hq⟩))
  obtain ⟨gq, rc, hrow⟩ := hq.rows
  refine HK.out _ _ ?_
  exact p7 w n gc W.heap.size gq rc a0 cap0 ea el ec tg co W2 hn (hA.below hq.bel) (Nat.lt_of_lt_of_le hg hq.bel.size) (hc.below hg hq.bel) ⟨by have := hq.sz; omega, fun i hi => by
    obtain ⟨h1, h2, h3, h4⟩ := hrow i hi
    exact ⟨h1, h3, fun j hj => (h4 j hj).1⟩⟩ (hB.trans (hq.bel.mono hz)) hE (fun i j hi hj => by
      rw [((hrow i hi).2.2.2 j hj).2, ((hrow j hj).2.2.2 i hi).2]; exact hS i j hi hj) _ _ _ _ _ _ _ _ _ _ _ _ _ _ _ _ _ _ _ _ _ _ _ _ _ _ _ _ _ _ _ _ _ _ _ _ _ _ _ _ _ _ _ _ _ _ _ _ _ _ _ _ _ _ _ _ _ _ _ _ _ _ _ _ _ _ _ _ _ _ _ _ _ _ _ _ _ _ _ _ _ _ _ _ _ _ _ _ _ _ _ _ _ _ _ _ _ _ _ _ _ _ _ _ _ _ _ _ _ _ _ _ _ _ _ _ _ _ _ _ _ _ _ _ _ _ _ _ _ _ _ _ _ _ _ _ _ _ _ _ _ _ _ _ _ _ _ _ _ _ _ _ _ _ _ _ _ _ _ _ _ _ _ _ _ _ _ _ _ _ _ _ _ _ _ _ _ _ _ _ _ _ _ _ _ _ _ _ _ _ _ _ _ _ _ _ _ _ _ _ _ _ _ _ _ _ _ _ _ _ _ _ _ _ _ _ _ _ _ _ _ _ _ _ _ _

set_option maxRecDepth 100000 in
set_option maxHeartbeats 400000 in
theorem p5 (w : World) (n gc : Nat) (a0 : Option Addr) (cap0 : Nat) (ea : Nat → Option Addr) (el ec : Nat → Nat) (tg : Nat → Nat → Int) (co : Nat → Int) (W : World) (hn : n ≤ 256) (hA : Adj n a0 ea el ec tg W) (hg : gc < W.heap.size) (hc : Ir n gc co W) (hB : Below w.heap.size w W) (h0 : ∀ j, j < n → 0 ≤ co j)
    (hE : ∀ u t, Ed n el tg u t → co t ≤ co u) (hS : ∀ i j, i < n → j < n → (co i = co j ↔ R (Ed n el tg) i j ∧ R (Ed n el tg) j i)) (v1 v2 v4 v5 v6 v7 v8 v9 v10 v11 v12 v14 v15 v16 v17 v18 v19 v20 v21 v22 v23 v24 v25 v26 v27 v28 v29 v30 v31 v32 v33 v34 v35 v36 v37 v38 v39 v40 v41 v42 v43 v44 v45 v46 v47 v48 v49 v50 v51 v52 v53 v54 v55 v56 v57 v58 v59 v60 v61 v62 v63 v64 v65 v66 v67 v68 v69 v70 v71 v72 v73 v74 v75 v76 v77 v78 v79 v80 v81 v82 v83 v84 v85 v86 v87 v88 v89 v90 v91 v92 v93 v94 v95 v96 v97 v98 v99 v100 v101 v102 v103 v104 v105 v106 v107 v108 v109 v110 v111 v112 v113 v114 v115 v116 v117 v118 v119 v120 v121 v122 v123 v124 v125 v126 v127 v128 v129 v130 v131 v132 v133 v134 v135 v136 v137 v138 v139 v140 v141 v142 v143 v144 v145 v146 v147 v148 v149 v150 v151 v152 v153 v154 v155 v156 v157 v158 v159 v160 v161 v162 v163 v164 v165 v166 v167 v168 v169 v170 v171 v172 v173 v174 v175 v176 v177 v178 v179 v180 v181 v182 v183 v184 v185 v186 v187 v188 v189 v190 v191 v192 v193 v194 v195 v196 v197 v198 v199 v200 v201 v202 v203 v204 v205 v206 v207 v208 v209 v210 v211 v212 v213 v214 v215 v216 v217 v218 v219 v220 v221 v222 v223 v224 v225 v226 v227 v228 v229 : Value) :
    Code.wp Yba.prog (tailN 12 (Yba.f3.body.getD .skip)) (bodyPost Yba.prog Yba.f3 (Rl w)) { tmps := List.toArray (.slice a0 n cap0 :: v1 :: v2 :: .int .i64 (n : Int) :: v4 :: v5 :: v6 :: v7 :: v8 :: v9 :: v10 :: v11 :: v12 :: .slice (some ⟨gc, 0, none⟩) n n :: v14 :: v15 :: v16 :: v17 :: v18 :: v19 :: v20 :: v21 :: v22 :: v23 :: v24 :: v25 :: v26 :: v27 :: v28 :: v29 :: v30 :: v31 :: v32 :: v33 :: v34 :: v35 :: v36 :: v37 :: v38 :: v39 :: v40 :: v41 :: v42 :: v43 :: v44 :: v45 :: v46 :: v47 :: v48 :: v49 :: v50 :: v51 :: v52 :: v53 :: v54 :: v55 :: v56 :: v57 :: v58 :: v59 :: v60 :: v61 :: v62 :: v63 :: v64 :: v65 :: v66 :: v67 :: v68 :: v69 :: v70 :: v71 :: v72 :: v73 :: v74 :: v75 :: v76 :: v77 :: v78 :: v79 :: v80 :: v81 :: v82 :: v83 :: v84 :: v85 :: v86 :: v87 :: v88 :: v89 :: v90 :: v91 :: v92 :: v93 :: v94 :: v95 :: v96 :: v97 :: v98 :: v99 :: v100 :: v101 :: v102 :: v103 :: v104 :: v105 :: v106 :: v107 :: v108 :: v109 :: v110 :: v111 :: v112 :: v113 :: v114 :: v115 :: v116 :: v117 :: v118 :: v119 :: v120 :: v121 :: v122 :: v123 :: v124 :: v125 :: v126 :: v127 :: v128 :: v129 :: v130 :: v131 :: v132 :: v133 :: v134 :: v135 :: v136 :: v137 :: v138 :: v139 :: v140 :: v141 :: v142 :: v143 :: v144 :: v145 :: v146 :: v147 :: v148 :: v149 :: v150 :: v151 :: v152 :: v153 :: v154 :: v155 :: v156 :: v157 :: v158 :: v159 :: v160 :: v161 :: v162 :: v163 :: v164 :: v165 :: v166 :: v167 :: v168 :: v169 :: v170 :: v171 :: v172 :: v173 :: v174 :: v175 :: v176 :: v177 :: v178 :: v179 :: v180 :: v181 :: v182 :: v183 :: v184 :: v185 :: v186 :: v187 :: v188 :: v189 :: v190 :: v191 :: v192 :: v193 :: v194 :: v195 :: v196 :: v197 :: v198 :: v199 :: v200 :: v201 :: v202 :: v203 :: v204 :: v205 :: v206 :: v207 :: v208 :: v209 :: v210 :: v211 :: v212 :: v213 :: v214 :: v215 :: v216 :: v217 :: v218 :: v219 :: v220 :: v221 :: v222 :: v223 :: v224 :: v225 :: v226 :: v227 :: v228 :: v229 :: []), defers := [] } W := by
  conv => arg 2; whnf
  go_upto_region 49 with fail
  rename_i K2 hK2 K1 hK1
  have HK : Hid _ := hK2
  clear hK2
  go_wp2
  go_loopg [20] n (fun g v wr => ∃ k : Nat, k + g = n ∧ v = .int .i64 (k : Int) ∧ wr = W)
  case atStart => exact ⟨0, by omega, rfl, rfl⟩
  case round =>
    obtain ⟨i, hk, rfl, rfl⟩ := hrel
    by_cases hlt : i < n
    · have hd : decide ((i : Int) < (n : Int)) = true := by simp; omega
      have q1 := hc.c i hlt
      have q2 := h0 i hlt
      have hd2 : decide (co i < 0) = false := by simp; omega
      go_wp2
      go_roundg (n - (i + 1))
      case measure => omega
      case rel => exact ⟨i + 1, by omega, by go_num, rfl⟩
    · have hd : decide ((i : Int) < (n : Int)) = false := by simp; omega
      go_wp2
      refine HK.out _ _ ?_
      exact p6 w n gc a0 cap0 ea el ec tg co wr hn hA hg hc hB hE hS _ _ _ _ _ _ _ _ _ _ _ _ _ _ _ _ _ _ _ _ _ _ _ _ _ _ _ _ _ _ _ _ _ _ _ _ _ _ _ _ _ _ _ _ _ _ _ _ _ _ _ _ _ _ _ _ _ _ _ _ _ _ _ _ _ _ _ _ _ _ _ _ _ _ _ _ _ _ _ _ _ _ _ _ _ _ _ _ _ _ _ _ _ _ _ _ _ _ _ _ _ _ _ _ _ _ _ _ _ _ _ _ _ _ _ _ _ _ _ _ _ _ _ _ _ _ _ _ _ _ _ _ _ _ _ _ _ _ _ _ _ _ _ _ _ _ _ _ _ _ _ _ _ _ _ _ _ _ _ _ _ _ _ _ _ _ _ _ _ _ _ _ _ _ _ _ _ _ _ _ _ _ _ _ _ _ _ _ _ _ _ _ _ _ _ _ _ _ _ _ _ _ _ _ _ _ _ _ _ _ _ _ _ _ _ _ _ _ _ _ _ _ _ _ _ _ _
end Go.Proofs.Ybulkboyu.scc
