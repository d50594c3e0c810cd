import Derived.Test.YbulkboyuP4
namespace Go.Proofs.Ybulkboyu.scc
open Go.ChangeShapes Go.WideShapes Go.ChangeAt Go.RowKit Go.Shelf

theorem row_shape {w : World} {base : Nat} {e : TypeId} {v : Value} {n : Nat} {xs : List Value} (h : w.ownsRow base e 1 v n xs) (hn : n ≠ 0) : ∃ g cap, v = .slice (some ⟨g, 0, none⟩) n cap ∧ g < w.heap.size ∧ n ≤ 9223372036854775807 ∧ ∀ (i : Nat) u, xs[i]? = some u → w.cell? ⟨g, i, none⟩ = some u := by
  obtain ⟨m, rfl⟩ : ∃ m, n = m + 1 := ⟨n - 1, by omega⟩
  obtain ⟨g, cap, rfl⟩ := own_succ h
  obtain ⟨_, h2, h3, h4, h5⟩ := row_facts h
  exact ⟨g, cap, rfl, h2, by unfold maxLen at h4; omega, h5⟩

theorem cm_of {n gn : Nat} {nd : Nat → Nat} {eb : Nat → Option Addr} {el : Nat → Nat} {tg : Nat → Nat → Int} {W W1 : World} {s : Sg} {E : Nat → Nat → Prop} {aC : Option Addr} {cC base : Nat} {cv : List Value} (hN : Nds n gn nd eb el tg W) (hx : ∀ j, j < n → W.cell? ⟨nd j, 3, none⟩ = some (.int .i64 (j : Int))) (hb : Below W.heap.size W W1) (hI : Inv n E s [])
    (rC : W1.ownsRow base 24 1 (.slice aC s.cs.length cC) s.cs.length cv) (rv : ∀ (k : Nat) (c : List Nat), s.cs[k]? = some c → ∃ v, cv[k]? = some v ∧ W1.ownsRow base 28 1 v c.length (ptrs nd c)) : Cm n gn nd s.cs aC W1 := by
  have hsz := hb.size
  refine ⟨Nat.lt_of_lt_of_le hN.gnH hsz, fun j hj => ?_, fun k c hc => ?_⟩
  · obtain ⟨h1, h2, _, _⟩ := hN.ndc j hj
    exact ⟨by omega, (cells_at (hb.block gn hN.gnH) j).trans h2, (cells_at (hb.block _ h1) 3).trans (hx j hj)⟩
  · obtain ⟨v, hv, hr⟩ := rv k c hc
    have hkl := (List.getElem?_eq_some_iff.1 hc).1
    obtain ⟨gC, cap1, e1, g1, _, c1⟩ := row_shape rC (by omega)
    obtain ⟨g, cap, rfl, g2, g3, c2⟩ := row_shape hr (fun e => hI.ne c (List.mem_of_getElem? hc) (List.eq_nil_of_length_eq_zero e))
    have ha : aC = some ⟨gC, 0, none⟩ ∧ cC = cap1 := by simpa using e1
    refine ⟨gC, g, cap, ha.1, g1, g2, g3, c1 k _ hv, fun m j hj => c2 m _ ?_⟩
    simp [hj]

theorem Cr.congr {n : Nat} {wb wr : World} {co co' : Nat → Int} (h : Cr n wb co wr) (he : ∀ j, j < n → co j = co' j) : Cr n wb co' wr :=
  ⟨h.bel, h.sz, fun j hj => by rw [← he j hj]; exact h.c j hj, h.fr⟩
theorem cr_start (n : Nat) (wb : World) : Cr n wb (fun _ => 0) (wb.alloc (.cells (rep (.int .i64 0) n) 3)) :=
  ⟨(Below.refl _ _).alloc (Nat.le_refl _) _, by simp, fun j hj => by rw [World.cell?_alloc_at _ _ _ _ rfl]; exact rep_at rfl n j hj, fun o => by rw [World.frozen?_alloc_at _ _ _ _ rfl]⟩

set_option maxRecDepth 100000 in
set_option maxHeartbeats 400000 in
theorem p3 (w : World) (n gn : Nat) (nd : Nat → Nat) (eb : Nat → Option Addr) (a0 : Option Addr) (cap0 : Nat) (ea : Nat → Option Addr) (el ec : Nat → Nat) (tg : Nat → Nat → Int) (W : World) (hn : n ≤ 256) (hA : Adj n a0 ea el ec tg W) (hN : Nds n gn nd eb el tg W) (hx : ∀ j, j < n → W.cell? ⟨nd j, 3, none⟩ = some (.int .i64 (j : Int))) (hB : Below w.heap.size w W) (v1 v2 v4 v5 v6 v8 v9 v10 v11 v12 v13 v14 v15 v16 v17 v18 v19 v20 v21 v22 v23 v24 v25 v26 v27 v28 v29 v30 v31 v32 v33 v34 v35 v36 v37 v38 v39 v40 v41 v42 v43 v44 v45 v46 v47 v48 v49 v50 v51 v52 v53 v54 v55 v56 v57 v58 v59 v60 v61 v62 v63 v64 v65 v66 v67 v68 v69 v70 v71 v72 v73 v74 v75 v76 v77 v78 v79 v80 v81 v82 v83 v84 v85 v86 v87 v88 v89 v90 v91 v92 v93 v94 v95 v96 v97 v98 v99 v100 v101 v102 v103 v104 v105 v106 v107 v108 v109 v110 v111 v112 v113 v114 v115 v116 v117 v118 v119 v120 v121 v122 v123 v124 v125 v126 v127 v128 v129 v130 v131 v132 v133 v134 v135 v136 v137 v138 v139 v140 v141 v142 v143 v144 v145 v146 v147 v148 v149 v150 v151 v152 v153 v154 v155 v156 v157 v158 v159 v160 v161 v162 v163 v164 v165 v166 v167 v168 v169 v170 v171 v172 v173 v174 v175 v176 v177 v178 v179 v180 v181 v182 v183 v184 v185 v186 v187 v188 v189 v190 v191 v192 v193 v194 v195 v196 v197 v198 v199 v200 v201 v202 v203 v204 v205 v206 v207 v208 v209 v210 v211 v212 v213 v214 v215 v216 v217 v218 v219 v220 v221 v222 v223 v224 v225 v226 v227 v228 v229 : Value) :
    Code.wp Yba.prog (tailN 8 (Yba.f3.body.getD .skip)) (bodyPost Yba.prog Yba.f3 (Rl w)) { tmps := List.toArray (.slice a0 n cap0 :: v1 :: v2 :: .int .i64 (n : Int) :: v4 :: v5 :: v6 :: .slice (some ⟨gn, 0, none⟩) n n :: v8 :: v9 :: v10 :: v11 :: v12 :: v13 :: v14 :: v15 :: v16 :: v17 :: v18 :: v19 :: v20 :: v21 :: v22 :: v23 :: v24 :: v25 :: v26 :: v27 :: v28 :: v29 :: v30 :: v31 :: v32 :: v33 :: v34 :: v35 :: v36 :: v37 :: v38 :: v39 :: v40 :: v41 :: v42 :: v43 :: v44 :: v45 :: v46 :: v47 :: v48 :: v49 :: v50 :: v51 :: v52 :: v53 :: v54 :: v55 :: v56 :: v57 :: v58 :: v59 :: v60 :: v61 :: v62 :: v63 :: v64 :: v65 :: v66 :: v67 :: v68 :: v69 :: v70 :: v71 :: v72 :: v73 :: v74 :: v75 :: v76 :: v77 :: v78 :: v79 :: v80 :: v81 :: v82 :: v83 :: v84 :: v85 :: v86 :: v87 :: v88 :: v89 :: v90 :: v91 :: v92 :: v93 :: v94 :: v95 :: v96 :: v97 :: v98 :: v99 :: v100 :: v101 :: v102 :: v103 :: v104 :: v105 :: v106 :: v107 :: v108 :: v109 :: v110 :: v111 :: v112 :: v113 :: v114 :: v115 :: v116 :: v117 :: v118 :: v119 :: v120 :: v121 :: v122 :: v123 :: v124 :: v125 :: v126 :: v127 :: v128 :: v129 :: v130 :: v131 :: v132 :: v133 :: v134 :: v135 :: v136 :: v137 :: v138 :: v139 :: v140 :: v141 :: v142 :: v143 :: v144 :: v145 :: v146 :: v147 :: v148 :: v149 :: v150 :: v151 :: v152 :: v153 :: v154 :: v155 :: v156 :: v157 :: v158 :: v159 :: v160 :: v161 :: v162 :: v163 :: v164 :: v165 :: v166 :: v167 :: v168 :: v169 :: v170 :: v171 :: v172 :: v173 :: v174 :: v175 :: v176 :: v177 :: v178 :: v179 :: v180 :: v181 :: v182 :: v183 :: v184 :: v185 :: v186 :: v187 :: v188 :: v189 :: v190 :: v191 :: v192 :: v193 :: v194 :: v195 :: v196 :: v197 :: v198 :: v199 :: v200 :: v201 :: v202 :: v203 :: v204 :: v205 :: v206 :: v207 :: v208 :: v209 :: v210 :: v211 :: v212 :: v213 :: v214 :: v215 :: v216 :: v217 :: v218 :: v219 :: v220 :: v221 :: v222 :: v223 :: v224 :: v225 :: v226 :: v227 :: v228 :: v229 :: []), defers := [] } W := by
  conv => arg 2; whnf
  have hz := hB.size
  have hcall := comps_any n gn nd eb el tg W hn hN
  go_upto_region 25 with (first | (go_at_call 7; refine hcall.mono ?_; rintro e wb ⟨s, aC, cC, cv, rfl, hb1, hI, hcnt, hv, rC, rv⟩))
  have hm := cm_of hN hx hb1 hI rC rv
  clear hcall rC rv
  have m39 := make39 n (by omega) wb
  have hcr := cr_start n wb
  go_upto_region 26 with fail
  rename_i K2 hK2 K1 hK1
  have HK : Hid _ := hK2
  clear hK2
  generalize wb.alloc (.cells (rep (.int .i64 0) n) 3) = W2 at hcr ⊢
  clear m39
  go_wp2
  go_loopg [91] n (fun g v wr => ∃ k : Nat, k + g = n ∧ v = .int .i64 (k : Int) ∧ Cr n wb (fun j => if j < k then -1 else 0) wr)
  case atStart => exact ⟨0, by omega, rfl, hcr.congr (fun j _ => by simp)⟩
  clear hcr
  case round =>
    obtain ⟨k, hk, rfl, hr⟩ := hrel
    by_cases hlt : k < n
    · have hd : decide ((k : Int) < (n : Int)) = true := by simp; omega
      have q1 := hr.c k hlt
      have q2 := hr.fr k
      have hr2 := (hr.set hlt (-1)).congr (co' := fun j => if j < k + 1 then -1 else 0) (fun j _ => by
        show (if j = k then (-1 : Int) else if j < k then -1 else 0) = if j < k + 1 then -1 else 0
        split
        · rw [if_pos (by omega)]
        · split
          · rw [if_pos (by omega)]
          · rw [if_neg (by omega)])
      go_wp2
      go_roundg (n - (k + 1))
      case measure => omega
      case rel => exact ⟨k + 1, by omega, by go_num, hr2⟩
    · have hd : decide ((k : Int) < (n : Int)) = false := by simp; omega
      obtain rfl : n = k := by omega
      go_wp2
      refine HK.out _ _ ?_
      exact p4 w n gn nd a0 cap0 ea el ec tg s aC cC wb wr hn (hA.below hb1) hm hI hcnt hv (hB.trans (hb1.mono hz)) (hr.congr (fun j hj => by simp [hj])) _ _ _ _ _ _ _ _ _ _ _ _ _ _ _ _ _ _ _ _ _ _ _ _ _ _ _ _ _ _ _ _ _ _ _ _ _ _ _ _ _ _ _ _ _ _ _ _ _ _ _ _ _ _ _ _ _ _ _ _ _ _ _ _ _ _ _ _ _ _ _ _ _ _ _ _ _ _ _ _ _ _ _ _ _ _ _ _ _ _ _ _ _ _ _ _ _ _ _ _ _ _ _ _ _ _ _ _ _ _ _ _ _ _ _ _ _ _ _ _ _ _ _ _ _ _ _ _ _ _ _ _ _ _ _ _ _ _ _ _ _ _ _ _ _ _ _ _ _ _ _ _ _ _ _ _ _ _ _ _ _ _ _ _ _ _ _ _ _ _ _ _ _ _ _ _ _ _ _ _ _ _ _ _ _ _ _ _ _ _ _ _ _ _ _ _ _ _ _ _ _ _ _ _ _ _ _ _ _ _ _ _ _ _ _ _ _ _ _ _ _ _ _ _ _
end Go.Proofs.Ybulkboyu.scc
