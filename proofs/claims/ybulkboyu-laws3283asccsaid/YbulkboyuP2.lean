import Derived.Test.YbulkboyuP2a
namespace Go.Proofs.Ybulkboyu.scc
open Go.ChangeShapes Go.WideShapes Go.ChangeAt Go.RowKit Go.Shelf

set_option maxRecDepth 100000 in
set_option maxHeartbeats 400000 in
theorem p2 (w : World) (n : Nat) (a0 : Option Addr) (cap0 : Nat) (ea : Nat → Option Addr) (el ec : Nat → Nat) (tg : Nat → Nat → Int) (W : World) (hn : n ≤ 256) (hA : Adj n a0 ea el ec tg W) (hB : Below w.heap.size w W) (v1 v2 v4 v5 v6 v7 v8 v9 v10 v11 v12 v13 v14 v15 v16 v17 v18 v19 v20 v21 v22 v23 v24 v25 v26 v27 v28 v29 v30 v31 v32 v33 v34 v35 v36 v37 v38 v39 v40 v41 v42 v43 v44 v45 v46 v47 v48 v49 v50 v51 v52 v53 v54 v55 v56 v57 v58 v59 v60 v61 v62 v63 v64 v65 v66 v67 v68 v69 v70 v71 v72 v73 v74 v75 v76 v77 v78 v79 v80 v81 v82 v83 v84 v85 v86 v87 v88 v89 v90 v91 v92 v93 v94 v95 v96 v97 v98 v99 v100 v101 v102 v103 v104 v105 v106 v107 v108 v109 v110 v111 v112 v113 v114 v115 v116 v117 v118 v119 v120 v121 v122 v123 v124 v125 v126 v127 v128 v129 v130 v131 v132 v133 v134 v135 v136 v137 v138 v139 v140 v141 v142 v143 v144 v145 v146 v147 v148 v149 v150 v151 v152 v153 v154 v155 v156 v157 v158 v159 v160 v161 v162 v163 v164 v165 v166 v167 v168 v169 v170 v171 v172 v173 v174 v175 v176 v177 v178 v179 v180 v181 v182 v183 v184 v185 v186 v187 v188 v189 v190 v191 v192 v193 v194 v195 v196 v197 v198 v199 v200 v201 v202 v203 v204 v205 v206 v207 v208 v209 v210 v211 v212 v213 v214 v215 v216 v217 v218 v219 v220 v221 v222 v223 v224 v225 v226 v227 v228 v229 : Value) :
    Code.wp Yba.prog (tailN 6 (Yba.f3.body.getD .skip)) (bodyPost Yba.prog Yba.f3 (Rl w)) { tmps := List.toArray (.slice a0 n cap0 :: v1 :: v2 :: .int .i64 (n : Int) :: v4 :: v5 :: v6 :: v7 :: v8 :: v9 :: v10 :: v11 :: v12 :: v13 :: v14 :: v15 :: v16 :: v17 :: v18 :: v19 :: v20 :: v21 :: v22 :: v23 :: v24 :: v25 :: v26 :: v27 :: v28 :: v29 :: v30 :: v31 :: v32 :: v33 :: v34 :: v35 :: v36 :: v37 :: v38 :: v39 :: v40 :: v41 :: v42 :: v43 :: v44 :: v45 :: v46 :: v47 :: v48 :: v49 :: v50 :: v51 :: v52 :: v53 :: v54 :: v55 :: v56 :: v57 :: v58 :: v59 :: v60 :: v61 :: v62 :: v63 :: v64 :: v65 :: v66 :: v67 :: v68 :: v69 :: v70 :: v71 :: v72 :: v73 :: v74 :: v75 :: v76 :: v77 :: v78 :: v79 :: v80 :: v81 :: v82 :: v83 :: v84 :: v85 :: v86 :: v87 :: v88 :: v89 :: v90 :: v91 :: v92 :: v93 :: v94 :: v95 :: v96 :: v97 :: v98 :: v99 :: v100 :: v101 :: v102 :: v103 :: v104 :: v105 :: v106 :: v107 :: v108 :: v109 :: v110 :: v111 :: v112 :: v113 :: v114 :: v115 :: v116 :: v117 :: v118 :: v119 :: v120 :: v121 :: v122 :: v123 :: v124 :: v125 :: v126 :: v127 :: v128 :: v129 :: v130 :: v131 :: v132 :: v133 :: v134 :: v135 :: v136 :: v137 :: v138 :: v139 :: v140 :: v141 :: v142 :: v143 :: v144 :: v145 :: v146 :: v147 :: v148 :: v149 :: v150 :: v151 :: v152 :: v153 :: v154 :: v155 :: v156 :: v157 :: v158 :: v159 :: v160 :: v161 :: v162 :: v163 :: v164 :: v165 :: v166 :: v167 :: v168 :: v169 :: v170 :: v171 :: v172 :: v173 :: v174 :: v175 :: v176 :: v177 :: v178 :: v179 :: v180 :: v181 :: v182 :: v183 :: v184 :: v185 :: v186 :: v187 :: v188 :: v189 :: v190 :: v191 :: v192 :: v193 :: v194 :: v195 :: v196 :: v197 :: v198 :: v199 :: v200 :: v201 :: v202 :: v203 :: v204 :: v205 :: v206 :: v207 :: v208 :: v209 :: v210 :: v211 :: v212 :: v213 :: v214 :: v215 :: v216 :: v217 :: v218 :: v219 :: v220 :: v221 :: v222 :: v223 :: v224 :: v225 :: v226 :: v227 :: v228 :: v229 :: []), defers := [] } W := by
  conv => arg 2; whnf
  have hz := hB.size
  have m24 := make24 n (by omega) W
  have hst := nk_start n el tg W
  go_upto_region 13 with fail
  rename_i K2 hK2 K1 hK1
  have HK : Hid _ := hK2
  clear hK2
  generalize W.alloc (.cells (rep (.pointer none) n) 28) = W1 at hst ⊢
  clear m24
  go_wp2
  go_loopg [50] n (fun g v wr => ∃ k : Nat, k + g = n ∧ v = .int .i64 (k : Int) ∧ Nk n el tg k W wr)
  case atStart => exact ⟨0, by omega, rfl, hst⟩
  clear hst
  case round =>
    obtain ⟨k, hk, rfl, hr⟩ := hrel
    obtain ⟨wq, rfl⟩ : ∃ x, x = wr := ⟨_, rfl⟩
    obtain ⟨gk0, rfl⟩ : ∃ x, x = gk := ⟨_, rfl⟩
    by_cases hlt : k < n
    · have hd : decide ((k : Int) < (n : Int)) = true := by simp; omega
      obtain ⟨x, rfl, qx, hel⟩ := (hA.below hr.bel).row k hlt
      obtain ⟨eak, heak⟩ : ∃ x, Hid (x = ea k) := ⟨_, rfl⟩
      rw [← heak.out] at qx
      have m25 := make25 (el k) (by omega) wq
      have hes := es_start (el k) (tg k) wq
      have qx' : (wq.alloc (.cells (rep3 (el k)) 27)).cell? (x.add k) = some (.slice eak (el k) (ec k)) := by rw [((Below.refl wq.heap.size wq).alloc (Nat.le_refl _) _).cell (World.block_lt_of_cell? _ _ qx)]; exact qx
      go_upto_region 17 with fail
      generalize wq.alloc (.cells (rep3 (el k)) 27) = W3 at hes qx' ⊢
      clear m25 qx
      go_wp2
      clear qx'
      go_loopg [64] (el k) (fun g v wr => ∃ m : Nat, m + g = el k ∧ v = .int .i64 (m : Int) ∧ Es wq.heap.size (el k) (tg k) m wq wr)
      case atStart => exact ⟨0, by omega, rfl, hes⟩
      clear hes
      case round =>
        obtain ⟨m, hm, rfl, hes⟩ := hrel
        by_cases hml : m < el k
        · have hd1 : decide ((m : Int) < (el k : Int)) = true := by simp; omega
          have hB3 : Below W.heap.size W wr := hr.bel.trans (hes.bel.mono (by have := hr.sz; omega))
          obtain ⟨y, he, qy, hwf⟩ := (hA.below hB3).tgt k hlt m hml
          rw [← heak.out] at he
          clear heak
          subst he
          obtain ⟨v0, z0⟩ := hes.z (m * 3) (by omega)
          obtain ⟨v1, z1⟩ := hes.z (m * 3 + 1) (by omega)
          obtain ⟨v2, z2⟩ := hes.z (m * 3 + 2) (by omega)
          have f0 := hes.fr (m * 3)
          have f1 := hes.fr (m * 3 + 1)
          have f2 := hes.fr (m * 3 + 2)
          have hnx := hes.next hml
          go_wp2
          go_roundg (el k - (m + 1))
          case measure => omega
          case rel => exact ⟨m + 1, by omega, by go_num, hnx⟩
        · have hd1 : decide ((m : Int) < (el k : Int)) = false := by simp; omega
          obtain rfl : m = el k := by omega
          have hs1 := hr.sz
          have hs2 := hes.sz
          have hnx := hr.next hlt hes
          obtain ⟨v0, hv0⟩ := hr.z k hlt
          have q0 : ∀ o, (wr.alloc o).cell? ⟨W.heap.size, k, none⟩ = some v0 := fun o => by rw [World.cell?_alloc_past _ _ _ (by show W.heap.size < _; omega), cells_at (hes.bel.block _ (by omega))]; exact hv0
          have f0 : ∀ o, (wr.alloc o).frozen? ⟨W.heap.size, k, none⟩ = false := fun o => by rw [World.frozen?_alloc_past _ _ _ (by show W.heap.size < _; omega), frozen_at (hes.bel.block _ (by omega))]; exact hr.fr k
          clear hs1 hs2
          go_wp2
          go_roundg (n - (k + 1))
          case measure => omega
          case rel => exact ⟨k + 1, by omega, by go_num, hnx⟩
    · have hd : decide ((k : Int) < (n : Int)) = false := by simp; omega
      obtain rfl : n = k := by omega
      go_wp2
      refine HK.out _ _ ?_
      exact p3 w n W.heap.size (fun j => W.heap.size + 2 + 2 * j) (fun j => some ⟨W.heap.size + 1 + 2 * j, 0, none⟩) a0 cap0 ea el ec tg wq hn (hA.below hr.bel) ⟨by have := hr.sz; omega, fun j hj => by
          obtain ⟨a, b, c, d, f⟩ := hr.c j hj
          obtain ⟨_, _, _, hel⟩ := hA.row j hj
          exact ⟨by have := hr.sz; omega, a, d, hel⟩, fun j hj => (hr.c j hj).2.2.1, fun j hj i hi => ⟨⟨_, rfl, by have := hr.sz; omega, (hr.c j hj).2.2.2.2 i hi⟩, by obtain ⟨_, _, _, h⟩ := hA.tgt j hj i hi; exact h⟩⟩ (fun j hj => (hr.c j hj).2.1) (hB.trans (hr.bel.mono hz)) _ _ _ _ _ _ _ _ _ _ _ _ _ _ _ _ _ _ _ _ _ _ _ _ _ _ _ _ _ _ _ _ _ _ _ _ _ _ _ _ _ _ _ _ _ _ _ _ _ _ _ _ _ _ _ _ _ _ _ _ _ _ _ _ _ _ _ _ _ _ _ _ _ _ _ _ _ _ _ _ _ _ _ _ _ _ _ _ _ _ _ _ _ _ _ _ _ _ _ _ _ _ _ _ _ _ _ _ _ _ _ _ _ _ _ _ _ _ _ _ _ _ _ _ _ _ _ _ _ _ _ _ _ _ _ _ _ _ _ _ _ _ _ _ _ _ _ _ _ _ _ _ _ _ _ _ _ _ _ _ _ _ _ _ _ _ _ _ _ _ _ _ _ _ _ _ _ _ _ _ _ _ _ _ _ _ _ _ _ _ _ _ _ _ _ _ _ _ _ _ _ _ _ _ _ _ _ _ _ _ _ _ _ _ _ _ _ _ _ _ _ _ _ _ _ _ _
end Go.Proofs.Ybulkboyu.scc
