import Derived.Test.YbulkboyuP8
namespace Go.Proofs.Ybulkboyu.scc
open Go.ChangeShapes Go.WideShapes Go.ChangeAt Go.RowKit Go.Shelf

/-- the table of reaches -/
structure Tb (n gr : Nat) (gq : Nat → Nat) (rc : Nat → Nat → Bool) (W : World) : Prop where
  g : gr < W.heap.size
  r : ∀ i, i < n → W.cell? ⟨gr, i, none⟩ = some (.slice (some ⟨gq i, 0, none⟩) n n) ∧ gq i < W.heap.size ∧ ∀ j, j < n → W.cell? ⟨gq i, j, none⟩ = some (.bool (rc i j))
theorem Tb.below {n gr : Nat} {gq : Nat → Nat} {rc : Nat → Nat → Bool} {W W' : World} (h : Tb n gr gq rc W) (hb : Below W.heap.size W W') : Tb n gr gq rc W' :=
  ⟨Nat.lt_of_lt_of_le h.g hb.size, fun i hi => by
    obtain ⟨h1, h2, h3⟩ := h.r i hi
    exact ⟨(cells_at (hb.block gr h.g) i).trans h1, Nat.lt_of_lt_of_le h2 hb.size, fun j hj => (cells_at (hb.block _ h2) j).trans (h3 j hj)⟩⟩

set_option maxRecDepth 100000 in
set_option maxHeartbeats 400000 in
theorem p7 (w : World) (n gc gr : Nat) (gq : Nat → Nat) (rc : Nat → Nat → Bool) (a0 : Option Addr) (cap0 : Nat) (ea : Nat → Option Addr) (el ec : Nat → Nat) (tg : Nat → Nat → Int) (co : Nat → Int) (W : World) (hn : n ≤ 256) (hA : Adj n a0 ea el ec tg W) (hg : gc < W.heap.size) (hc : Ir n gc co W) (ht : Tb n gr gq rc W) (hB : Below w.heap.size w W)
    (hE : ∀ u t, Ed n el tg u t → co t ≤ co u) (hS : ∀ i j, i < n → j < n → (co i = co j ↔ rc i j = true ∧ rc j i = true)) (v1 v2 v4 v5 v6 v7 v8 v9 v10 v11 v12 v14 v15 v16 v17 v18 v19 v20 v22 v23 v24 v25 v26 v27 v28 v29 v30 v31 v32 v33 v34 v35 v36 v37 v38 v39 v40 v41 v42 v43 v44 v45 v46 v47 v48 v49 v50 v51 v52 v53 v54 v55 v56 v57 v58 v59 v60 v61 v62 v63 v64 v65 v66 v67 v68 v69 v70 v71 v72 v73 v74 v75 v76 v77 v78 v79 v80 v81 v82 v83 v84 v85 v86 v87 v88 v89 v90 v91 v92 v93 v94 v95 v96 v97 v98 v99 v100 v101 v102 v103 v104 v105 v106 v107 v108 v109 v110 v111 v112 v113 v114 v115 v116 v117 v118 v119 v120 v121 v122 v123 v124 v125 v126 v127 v128 v129 v130 v131 v132 v133 v134 v135 v136 v137 v138 v139 v140 v141 v142 v143 v144 v145 v146 v147 v148 v149 v150 v151 v152 v153 v154 v155 v156 v157 v158 v159 v160 v161 v162 v163 v164 v165 v166 v167 v168 v169 v170 v171 v172 v173 v174 v175 v176 v177 v178 v179 v180 v181 v182 v183 v184 v185 v186 v187 v188 v189 v190 v191 v192 v193 v194 v195 v196 v197 v198 v199 v200 v201 v202 v203 v204 v205 v206 v207 v208 v209 v210 v211 v212 v213 v214 v215 v216 v217 v218 v219 v220 v221 v222 v223 v224 v225 v226 v227 v228 v229 : Value) :
    Code.wp Yba.prog (tailN 14 (Yba.f3.body.getD .skip)) (bodyPost Yba.prog Yba.f3 (Rl w)) { tmps := List.toArray (.slice a0 n cap0 :: v1 :: v2 :: .int .i64 (n : Int) :: v4 :: v5 :: v6 :: v7 :: v8 :: v9 :: v10 :: v11 :: v12 :: .slice (some ⟨gc, 0, none⟩) n n :: v14 :: v15 :: v16 :: v17 :: v18 :: v19 :: v20 :: .slice (some ⟨gr, 0, none⟩) n n :: v22 :: v23 :: v24 :: v25 :: v26 :: v27 :: v28 :: v29 :: v30 :: v31 :: v32 :: v33 :: v34 :: v35 :: v36 :: v37 :: v38 :: v39 :: v40 :: v41 :: v42 :: v43 :: v44 :: v45 :: v46 :: v47 :: v48 :: v49 :: v50 :: v51 :: v52 :: v53 :: v54 :: v55 :: v56 :: v57 :: v58 :: v59 :: v60 :: v61 :: v62 :: v63 :: v64 :: v65 :: v66 :: v67 :: v68 :: v69 :: v70 :: v71 :: v72 :: v73 :: v74 :: v75 :: v76 :: v77 :: v78 :: v79 :: v80 :: v81 :: v82 :: v83 :: v84 :: v85 :: v86 :: v87 :: v88 :: v89 :: v90 :: v91 :: v92 :: v93 :: v94 :: v95 :: v96 :: v97 :: v98 :: v99 :: v100 :: v101 :: v102 :: v103 :: v104 :: v105 :: v106 :: v107 :: v108 :: v109 :: v110 :: v111 :: v112 :: v113 :: v114 :: v115 :: v116 :: v117 :: v118 :: v119 :: v120 :: v121 :: v122 :: v123 :: v124 :: v125 :: v126 :: v127 :: v128 :: v129 :: v130 :: v131 :: v132 :: v133 :: v134 :: v135 :: v136 :: v137 :: v138 :: v139 :: v140 :: v141 :: v142 :: v143 :: v144 :: v145 :: v146 :: v147 :: v148 :: v149 :: v150 :: v151 :: v152 :: v153 :: v154 :: v155 :: v156 :: v157 :: v158 :: v159 :: v160 :: v161 :: v162 :: v163 :: v164 :: v165 :: v166 :: v167 :: v168 :: v169 :: v170 :: v171 :: v172 :: v173 :: v174 :: v175 :: v176 :: v177 :: v178 :: v179 :: v180 :: v181 :: v182 :: v183 :: v184 :: v185 :: v186 :: v187 :: v188 :: v189 :: v190 :: v191 :: v192 :: v193 :: v194 :: v195 :: v196 :: v197 :: v198 :: v199 :: v200 :: v201 :: v202 :: v203 :: v204 :: v205 :: v206 :: v207 :: v208 :: v209 :: v210 :: v211 :: v212 :: v213 :: v214 :: v215 :: v216 :: v217 :: v218 :: v219 :: v220 :: v221 :: v222 :: v223 :: v224 :: v225 :: v226 :: v227 :: v228 :: v229 :: []), defers := [] } W := by
  conv => arg 2; whnf
  have hz := hB.size
  go_upto_region 55 with fail
  rename_i K2 hK2 K1 hK1
  have HK : Hid _ := hK2
  clear hK2
  go_wp2
  go_loopg [22] n (fun g v wr => ∃ k : Nat, k + g = n ∧ v = .int .i64 (k : Int) ∧ Below W.heap.size W wr)
  case atStart => exact ⟨0, by omega, rfl, Below.refl _ _⟩
  case round =>
    obtain ⟨i, hk, rfl, hb⟩ := hrel
    by_cases hlt : i < n
    · have hd : decide ((i : Int) < (n : Int)) = true := by simp; omega
      go_wp2
      obtain ⟨wp, rfl⟩ : ∃ x, x = wr := ⟨_, rfl⟩
      obtain ⟨gk1, rfl⟩ : ∃ x, x = gk := ⟨_, rfl⟩
      go_loopg [23] n (fun g v wr => ∃ j : Nat, j + g = n ∧ v = .int .i64 (j : Int) ∧ Below W.heap.size W wr)
      case atStart => exact ⟨0, by omega, rfl, hb⟩
      clear hb
      case round =>
        obtain ⟨j, hj, rfl, hb⟩ := hrel
        by_cases hjl : j < n
        · have hd1 : decide ((j : Int) < (n : Int)) = true := by simp; omega
          have hc' := hc.below hg hb
          have q1 := hc'.c i hlt
          have q2 := hc'.c j hjl
          have ht' := ht.below hb
          obtain ⟨r1, _, r2⟩ := ht'.r i hlt
          obtain ⟨r3, _, r4⟩ := ht'.r j hjl
          have r5 := r2 j hjl
          have r6 := r4 i hlt
          clear r2 r4
          have b1 := hc.b i
          have b2 := hc.b j
          have hs := hS i j hlt hjl
          by_cases he : co i = co j
          · obtain ⟨s1, s2⟩ := hs.1 he
            rw [s1] at r5
            rw [s2] at r6
            have hd2 : decide (co i = co j) = true := by simp [he]
            have hd3 : (co i == co j) = true := by simp [he]
            clear hs hS
            · go_upto_region 61 with fail
              go_quiet (fail)
              go_wp2
              go_roundg (n - (j + 1))
              case measure => omega
              case rel => exact ⟨j + 1, by omega, by go_num, hb.trans ⟨rfl, rfl, rfl, Nat.le_refl _, fun _ _ => rfl⟩⟩
          · have hd2 : decide (co i = co j) = false := by simp [he]
            have hd3 : (co i == co j) = false := by simp [he]
            cases h5 : rc i j with
            | false =>
              rw [h5] at r5
              clear hs hS
              go_upto_region 61 with fail
              go_quiet (fail)
              go_wp2
              go_roundg (n - (j + 1))
              case measure => omega
              case rel => exact ⟨j + 1, by omega, by go_num, hb.trans ⟨rfl, rfl, rfl, Nat.le_refl _, fun _ _ => rfl⟩⟩
            | true =>
              rw [h5] at r5
              have h6 : rc j i = false := by
                cases h6 : rc j i with
                | false => rfl
                | true => exact absurd (hs.2 ⟨h5, h6⟩) he
              rw [h6] at r6
              clear hs hS
              go_upto_region 61 with fail
              go_quiet (fail)
              go_wp2
              go_roundg (n - (j + 1))
              case measure => omega
              case rel => exact ⟨j + 1, by omega, by go_num, hb.trans ⟨rfl, rfl, rfl, Nat.le_refl _, fun _ _ => rfl⟩⟩
        · have hd1 : decide ((j : Int) < (n : Int)) = false := by simp; omega
          go_wp2
          go_roundg (n - (i + 1))
          case measure => omega
          case rel => exact ⟨i + 1, by omega, by go_num, hb⟩
    · have hd : decide ((i : Int) < (n : Int)) = false := by simp; omega
      go_wp2
      refine HK.out _ _ ?_
      exact p8 w n gc a0 cap0 ea el ec tg co wr hn (hA.below hb) (Nat.lt_of_lt_of_le hg hb.size) (hc.below hg hb) (hB.trans (hb.mono hz)) hE _ _ _ _ _ _ _ _ _ _ _ _ _ _ _ _ _ _ _ _ _ _ _ _ _ _ _ _ _ _ _ _ _ _ _ _ _ _ _ _ _ _ _ _ _ _ _ _ _ _ _ _ _ _ _ _ _ _ _ _ _ _ _ _ _ _ _ _ _ _ _ _ _ _ _ _ _ _ _ _ _ _ _ _ _ _ _ _ _ _ _ _ _ _ _ _ _ _ _ _ _ _ _ _ _ _ _ _ _ _ _ _ _ _ _ _ _ _ _ _ _ _ _ _ _ _ _ _ _ _ _ _ _ _ _ _ _ _ _ _ _ _ _ _ _ _ _ _ _ _ _ _ _ _ _ _ _ _ _ _ _ _ _ _ _ _ _ _ _ _ _ _ _ _ _ _ _ _ _ _ _ _ _ _ _ _ _ _ _ _ _ _ _ _ _ _ _ _ _ _ _ _ _ _ _ _ _ _ _ _ _ _ _ _ _ _ _ _ _ _ _ _ _ _ _ _ _
end Go.Proofs.Ybulkboyu.scc
