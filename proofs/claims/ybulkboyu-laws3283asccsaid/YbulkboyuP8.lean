import Derived.Test.YbulkboyuLPlain
namespace Go.Proofs.Ybulkboyu.scc
open Go.ChangeShapes Go.WideShapes Go.ChangeAt Go.RowKit Go.Shelf

def Rl (w : World) : Ending → World → Prop := fun e w' => e = .returned (.bool true) ∧ Below w.heap.size w w'

/-- a row of integers -/
structure Ir (n gc : Nat) (co : Nat → Int) (W : World) : Prop where
  c : ∀ j, j < n → W.cell? ⟨gc, j, none⟩ = some (.int .i64 (co j))
  b : ∀ j, -1 ≤ co j ∧ co j ≤ 5000
theorem Ir.below {n gc : Nat} {co : Nat → Int} {W W' : World} (h : Ir n gc co W) (hg : gc < W.heap.size) (hb : Below W.heap.size W W') : Ir n gc co W' :=
  ⟨fun j hj => (cells_at (hb.block gc hg) j).trans (h.c j hj), h.b⟩

set_option maxRecDepth 100000 in
set_option maxHeartbeats 400000 in
theorem p8 (w : World) (n gc : Nat) (a0 : Option Addr) (cap0 : Nat) (ea : Nat → Option Addr) (el ec : Nat → Nat) (tg : Nat → Nat → Int) (co : Nat → Int) (W : World) (hn : n ≤ 256) (hA : Adj n a0 ea el ec tg W) (hg : gc < W.heap.size) (hc : Ir n gc co W) (hB : Below w.heap.size w W)
    (hE : ∀ u t, Ed n el tg u t → co t ≤ co u) (v1 v2 v4 v5 v6 v7 v8 v9 v10 v11 v12 v14 v15 v16 v17 v18 v19 v20 v21 v22 v23 v24 v25 v26 v27 v28 v29 v30 v31 v32 v33 v34 v35 v36 v37 v38 v39 v40 v41 v42 v43 v44 v45 v46 v47 v48 v49 v50 v51 v52 v53 v54 v55 v56 v57 v58 v59 v60 v61 v62 v63 v64 v65 v66 v67 v68 v69 v70 v71 v72 v73 v74 v75 v76 v77 v78 v79 v80 v81 v82 v83 v84 v85 v86 v87 v88 v89 v90 v91 v92 v93 v94 v95 v96 v97 v98 v99 v100 v101 v102 v103 v104 v105 v106 v107 v108 v109 v110 v111 v112 v113 v114 v115 v116 v117 v118 v119 v120 v121 v122 v123 v124 v125 v126 v127 v128 v129 v130 v131 v132 v133 v134 v135 v136 v137 v138 v139 v140 v141 v142 v143 v144 v145 v146 v147 v148 v149 v150 v151 v152 v153 v154 v155 v156 v157 v158 v159 v160 v161 v162 v163 v164 v165 v166 v167 v168 v169 v170 v171 v172 v173 v174 v175 v176 v177 v178 v179 v180 v181 v182 v183 v184 v185 v186 v187 v188 v189 v190 v191 v192 v193 v194 v195 v196 v197 v198 v199 v200 v201 v202 v203 v204 v205 v206 v207 v208 v209 v210 v211 v212 v213 v214 v215 v216 v217 v218 v219 v220 v221 v222 v223 v224 v225 v226 v227 v228 v229 : Value) :
    Code.wp Yba.prog (tailN 15 (Yba.f3.body.getD .skip)) (bodyPost Yba.prog Yba.f3 (Rl w)) { tmps := List.toArray (.slice a0 n cap0 :: v1 :: v2 :: .int .i64 (n : Int) :: v4 :: v5 :: v6 :: v7 :: v8 :: v9 :: v10 :: v11 :: v12 :: .slice (some ⟨gc, 0, none⟩) n n :: v14 :: v15 :: v16 :: v17 :: v18 :: v19 :: v20 :: v21 :: v22 :: v23 :: v24 :: v25 :: v26 :: v27 :: v28 :: v29 :: v30 :: v31 :: v32 :: v33 :: v34 :: v35 :: v36 :: v37 :: v38 :: v39 :: v40 :: v41 :: v42 :: v43 :: v44 :: v45 :: v46 :: v47 :: v48 :: v49 :: v50 :: v51 :: v52 :: v53 :: v54 :: v55 :: v56 :: v57 :: v58 :: v59 :: v60 :: v61 :: v62 :: v63 :: v64 :: v65 :: v66 :: v67 :: v68 :: v69 :: v70 :: v71 :: v72 :: v73 :: v74 :: v75 :: v76 :: v77 :: v78 :: v79 :: v80 :: v81 :: v82 :: v83 :: v84 :: v85 :: v86 :: v87 :: v88 :: v89 :: v90 :: v91 :: v92 :: v93 :: v94 :: v95 :: v96 :: v97 :: v98 :: v99 :: v100 :: v101 :: v102 :: v103 :: v104 :: v105 :: v106 :: v107 :: v108 :: v109 :: v110 :: v111 :: v112 :: v113 :: v114 :: v115 :: v116 :: v117 :: v118 :: v119 :: v120 :: v121 :: v122 :: v123 :: v124 :: v125 :: v126 :: v127 :: v128 :: v129 :: v130 :: v131 :: v132 :: v133 :: v134 :: v135 :: v136 :: v137 :: v138 :: v139 :: v140 :: v141 :: v142 :: v143 :: v144 :: v145 :: v146 :: v147 :: v148 :: v149 :: v150 :: v151 :: v152 :: v153 :: v154 :: v155 :: v156 :: v157 :: v158 :: v159 :: v160 :: v161 :: v162 :: v163 :: v164 :: v165 :: v166 :: v167 :: v168 :: v169 :: v170 :: v171 :: v172 :: v173 :: v174 :: v175 :: v176 :: v177 :: v178 :: v179 :: v180 :: v181 :: v182 :: v183 :: v184 :: v185 :: v186 :: v187 :: v188 :: v189 :: v190 :: v191 :: v192 :: v193 :: v194 :: v195 :: v196 :: v197 :: v198 :: v199 :: v200 :: v201 :: v202 :: v203 :: v204 :: v205 :: v206 :: v207 :: v208 :: v209 :: v210 :: v211 :: v212 :: v213 :: v214 :: v215 :: v216 :: v217 :: v218 :: v219 :: v220 :: v221 :: v222 :: v223 :: v224 :: v225 :: v226 :: v227 :: v228 :: v229 :: []), defers := [] } W := by
  conv => arg 2; whnf
  have hz := hB.size
  go_wp2
  go_loopg [197] n (fun g v wr => ∃ k : Nat, k + g = n ∧ v = .int .i64 (k : Int) ∧ Below W.heap.size W wr)
  case atStart => exact ⟨0, by omega, rfl, Below.refl _ _⟩
  case round =>
    obtain ⟨u, hk, rfl, hb⟩ := hrel
    by_cases hlt : u < n
    · have hd : decide ((u : Int) < (n : Int)) = true := by simp; omega
      obtain ⟨x, rfl, qx, hel⟩ := (hA.below hb).row u hlt
      obtain ⟨eau, heau⟩ : ∃ x, Hid (x = ea u) := ⟨_, rfl⟩
      rw [← heau.out] at qx
      go_wp2
      clear qx
      obtain ⟨wp, rfl⟩ : ∃ x, x = wr := ⟨_, rfl⟩
      obtain ⟨gk1, rfl⟩ : ∃ x, x = gk := ⟨_, rfl⟩
      go_loopg [204] (el u) (fun g v wr => ∃ j : Nat, j + g = el u ∧ v = .int .i64 (j : Int) ∧ Below W.heap.size W wr)
      case atStart => exact ⟨0, by omega, rfl, hb⟩
      clear hb
      case round =>
        obtain ⟨j, hj, rfl, hb⟩ := hrel
        by_cases hjl : j < el u
        · have hd1 : decide ((j : Int) < (el u : Int)) = true := by simp; omega
          obtain ⟨y, he, qy, hwf⟩ := (hA.below hb).tgt u hlt j hjl
          rw [← heau.out] at he
          clear heau
          subst he
          have ht := i32r hwf
          have FIN : Hid (∃ j' : Nat, j' + (el u - (j + 1)) = el u ∧ (Value.int .i64 ((j : Int) + 1)) = .int .i64 (j' : Int) ∧ ∀ d, Below W.heap.size W (wr.drewN d)) := ⟨j + 1, by omega, by simp, fun d => hb.trans ⟨rfl, rfl, rfl, Nat.le_refl _, fun _ _ => rfl⟩⟩
          by_cases hneg : tg u j < 0
          · have hd2 : decide (tg u j ≥ 0) = false := by simp; omega
            go_upto_region 70 with fail
            go_quiet (fail)
            go_wp2
            go_roundg (el u - (j + 1))
            case measure => omega
            case rel => obtain ⟨j', h1, h2, h3⟩ := FIN.out; exact ⟨j', h1, h2, h3 _⟩
          · have hd2 : decide (tg u j ≥ 0) = true := by simp; omega
            obtain ⟨t, htj⟩ : ∃ t : Nat, tg u j = (t : Int) := ⟨(tg u j).toNat, by omega⟩
            rw [htj] at qy hd2 ht
            by_cases htn : t < n
            · have hd3 : decide ((t : Int) < (n : Int)) = true := by simp; omega
              have hc' := hc.below hg hb
              have q1 := hc'.c t htn
              have q2 := hc'.c u hlt
              have hle := hE u t ⟨hlt, htn, j, hjl, htj⟩
              have b1 := hc.b t
              have b2 := hc.b u
              have hd4 : decide (co t > co u) = false := by simp; omega
              go_upto_region 70 with fail
              go_quiet (fail)
              go_wp2
              go_roundg (el u - (j + 1))
              case measure => omega
              case rel => obtain ⟨j', h1, h2, h3⟩ := FIN.out; exact ⟨j', h1, h2, h3 _⟩
            · have hd3 : decide ((t : Int) < (n : Int)) = false := by simp; omega
              go_upto_region 70 with fail
              go_quiet (fail)
              go_wp2
              go_roundg (el u - (j + 1))
              case measure => omega
              case rel => obtain ⟨j', h1, h2, h3⟩ := FIN.out; exact ⟨j', h1, h2, h3 _⟩
        · have hd1 : decide ((j : Int) < (el u : Int)) = false := by simp; omega
          go_wp2
          go_roundg (n - (u + 1))
          case measure => omega
          case rel => exact ⟨u + 1, by omega, by go_num, hb⟩
    · have hd : decide ((u : Int) < (n : Int)) = false := by simp; omega
      go_wp2
      go_ret
      exact ⟨rfl, hB.trans (hb.mono hz)⟩
end Go.Proofs.Ybulkboyu.scc
