import Derived.Test.YbulkboyuP5
namespace Go.Proofs.Ybulkboyu.scc
open Go.ChangeShapes Go.WideShapes Go.ChangeAt Go.RowKit Go.Shelf

theorem same_addr (w : World) (a : Addr) : (sameAddr a a).run Yba.prog w = .ok true w := by simp [sameAddr]
theorem eqp (w : World) (d : Nat) (a : Addr) : (Op.equalIn (d + 1) 28 (.pointer (some a)) (.pointer (some a))).run Yba.prog w = .ok true w := by
  simp [Op.equalIn, run_underlying Yba.underlying28, Yba.sizeOf36, same_addr]
theorem neq28 (w : World) (a : Addr) : (binOp .neq 28 (.pointer (some a)) (.pointer (some a))).run Yba.prog w = .ok (.bool false) w := by
  simp only [binOp]
  simp [Op.equal, Op.maxDepth, eqp w 9999 a]

/-- the nodes and the components, as the law reads them -/
structure Cm (n gn : Nat) (nd : Nat → Nat) (cs : List (List Nat)) (aC : Option Addr) (wb : World) : Prop where
  g : gn < wb.heap.size
  ndc : ∀ j, j < n → nd j < wb.heap.size ∧ wb.cell? ⟨gn, j, none⟩ = some (.pointer (some ⟨nd j, 0, none⟩)) ∧ wb.cell? ⟨nd j, 3, none⟩ = some (.int .i64 (j : Int))
  cs : ∀ (k : Nat) (c : List Nat), cs[k]? = some c → ∃ gC g cap, aC = some ⟨gC, 0, none⟩ ∧ gC < wb.heap.size ∧ g < wb.heap.size ∧ c.length ≤ 9223372036854775807 ∧ wb.cell? ⟨gC, k, none⟩ = some (.slice (some ⟨g, 0, none⟩) c.length cap) ∧ ∀ (m : Nat) (j : Nat), c[m]? = some j → wb.cell? ⟨g, m, none⟩ = some (.pointer (some ⟨nd j, 0, none⟩))

/-- the row of the components' numbers -/
structure Cr (n : Nat) (wb : World) (co : Nat → Int) (wr : World) : Prop where
  bel : Below wb.heap.size wb wr
  sz : wb.heap.size + 1 ≤ wr.heap.size
  c : ∀ j, j < n → wr.cell? ⟨wb.heap.size, j, none⟩ = some (.int .i64 (co j))
  fr : ∀ o, wr.frozen? ⟨wb.heap.size, o, none⟩ = false

theorem Cr.set {n : Nat} {wb wr : World} {co : Nat → Int} (h : Cr n wb co wr) {j : Nat} (hj : j < n) (x : Int) : Cr n wb (fun i => if i = j then x else co i) (wr.setCell ⟨wb.heap.size, j, none⟩ (.int .i64 x)) :=
  ⟨h.bel.setCell (Nat.le_refl _) _, by rw [World.size_setCell]; exact h.sz, fun i hi => by
    by_cases e : i = j
    · subst e; simp only [if_true]; exact World.cell?_setCell_same _ _ _ (h.c i hi)
    · simp only [if_neg e]; rw [other_off (fun e' => e e'.symm)]; exact h.c i hi, fun o => by rw [World.frozen?_setCell]; exact h.fr o⟩

structure L5 (n : Nat) (cs : List (List Nat)) (wb : World) (v : Value) (g : Nat) (wr : World) : Prop where
  ex : ∃ (k : Nat) (co : Nat → Int), k + g = cs.length ∧ v = .int .i64 (k : Int) ∧ Cr n wb co wr ∧ Co cs k [] co
structure L6 (n : Nat) (cs : List (List Nat)) (k : Nat) (c : List Nat) (wb : World) (v : Value) (g : Nat) (wr : World) : Prop where
  ex : ∃ (m : Nat) (co : Nat → Int), m + g = c.length ∧ v = .int .i64 (m : Int) ∧ Cr n wb co wr ∧ Co cs k (c.take m) co

set_option maxRecDepth 100000 in
set_option maxHeartbeats 400000 in
theorem p4 (w : World) (n gn : Nat) (nd : Nat → Nat) (a0 : Option Addr) (cap0 : Nat) (ea : Nat → Option Addr) (el ec : Nat → Nat) (tg : Nat → Nat → Int) (s : Sg) (aC : Option Addr) (cC : Nat) (wb W : World) (hn : n ≤ 256) (hA : Adj n a0 ea el ec tg wb) (hm : Cm n gn nd s.cs aC wb) (hI : Inv n (Ed n el tg) s []) (hcnt : s.cnt ≤ 256) (hv : ∀ j, j < n → s.idx j ≠ 0) (hB : Below w.heap.size w wb)
    (hr : Cr n wb (fun _ => -1) W) (v1 v2 v4 v5 v6 v8 v9 v10 v11 v14 v15 v16 v17 v18 v19 v20 v21 v22 v23 v24 v25 v26 v27 v28 v29 v30 v31 v32 v33 v34 v35 v36 v37 v38 v39 v40 v41 v42 v43 v44 v45 v46 v47 v48 v49 v50 v51 v52 v53 v54 v55 v56 v57 v58 v59 v60 v61 v62 v63 v64 v65 v66 v67 v68 v69 v70 v71 v72 v73 v74 v75 v76 v77 v78 v79 v80 v81 v82 v83 v84 v85 v86 v87 v88 v89 v90 v91 v92 v93 v94 v95 v96 v97 v98 v99 v100 v101 v102 v103 v104 v105 v106 v107 v108 v109 v110 v111 v112 v113 v114 v115 v116 v117 v118 v119 v120 v121 v122 v123 v124 v125 v126 v127 v128 v129 v130 v131 v132 v133 v134 v135 v136 v137 v138 v139 v140 v141 v142 v143 v144 v145 v146 v147 v148 v149 v150 v151 v152 v153 v154 v155 v156 v157 v158 v159 v160 v161 v162 v163 v164 v165 v166 v167 v168 v169 v170 v171 v172 v173 v174 v175 v176 v177 v178 v179 v180 v181 v182 v183 v184 v185 v186 v187 v188 v189 v190 v191 v192 v193 v194 v195 v196 v197 v198 v199 v200 v201 v202 v203 v204 v205 v206 v207 v208 v209 v210 v211 v212 v213 v214 v215 v216 v217 v218 v219 v220 v221 v222 v223 v224 v225 v226 v227 v228 v229 : Value) :
    Code.wp Yba.prog (tailN 11 (Yba.f3.body.getD .skip)) (bodyPost Yba.prog Yba.f3 (Rl w)) { tmps := List.toArray (.slice a0 n cap0 :: v1 :: v2 :: .int .i64 (n : Int) :: v4 :: v5 :: v6 :: .slice (some ⟨gn, 0, none⟩) n n :: v8 :: v9 :: v10 :: v11 :: .slice aC s.cs.length cC :: .slice (some ⟨wb.heap.size, 0, none⟩) n n :: v14 :: v15 :: v16 :: v17 :: v18 :: v19 :: v20 :: v21 :: v22 :: v23 :: v24 :: v25 :: v26 :: v27 :: v28 :: v29 :: v30 :: v31 :: v32 :: v33 :: v34 :: v35 :: v36 :: v37 :: v38 :: v39 :: v40 :: v41 :: v42 :: v43 :: v44 :: v45 :: v46 :: v47 :: v48 :: v49 :: v50 :: v51 :: v52 :: v53 :: v54 :: v55 :: v56 :: v57 :: v58 :: v59 :: v60 :: v61 :: v62 :: v63 :: v64 :: v65 :: v66 :: v67 :: v68 :: v69 :: v70 :: v71 :: v72 :: v73 :: v74 :: v75 :: v76 :: v77 :: v78 :: v79 :: v80 :: v81 :: v82 :: v83 :: v84 :: v85 :: v86 :: v87 :: v88 :: v89 :: v90 :: v91 :: v92 :: v93 :: v94 :: v95 :: v96 :: v97 :: v98 :: v99 :: v100 :: v101 :: v102 :: v103 :: v104 :: v105 :: v106 :: v107 :: v108 :: v109 :: v110 :: v111 :: v112 :: v113 :: v114 :: v115 :: v116 :: v117 :: v118 :: v119 :: v120 :: v121 :: v122 :: v123 :: v124 :: v125 :: v126 :: v127 :: v128 :: v129 :: v130 :: v131 :: v132 :: v133 :: v134 :: v135 :: v136 :: v137 :: v138 :: v139 :: v140 :: v141 :: v142 :: v143 :: v144 :: v145 :: v146 :: v147 :: v148 :: v149 :: v150 :: v151 :: v152 :: v153 :: v154 :: v155 :: v156 :: v157 :: v158 :: v159 :: v160 :: v161 :: v162 :: v163 :: v164 :: v165 :: v166 :: v167 :: v168 :: v169 :: v170 :: v171 :: v172 :: v173 :: v174 :: v175 :: v176 :: v177 :: v178 :: v179 :: v180 :: v181 :: v182 :: v183 :: v184 :: v185 :: v186 :: v187 :: v188 :: v189 :: v190 :: v191 :: v192 :: v193 :: v194 :: v195 :: v196 :: v197 :: v198 :: v199 :: v200 :: v201 :: v202 :: v203 :: v204 :: v205 :: v206 :: v207 :: v208 :: v209 :: v210 :: v211 :: v212 :: v213 :: v214 :: v215 :: v216 :: v217 :: v218 :: v219 :: v220 :: v221 :: v222 :: v223 :: v224 :: v225 :: v226 :: v227 :: v228 :: v229 :: []), defers := [] } W := by
  conv => arg 2; whnf
  have hz := hB.size
  have hln := hI.ln
  go_upto_region 31 with fail
  rename_i K2 hK2 K1 hK1
  have HK : Hid _ := hK2
  clear hK2
  go_wp2
  go_loopg [100] s.cs.length (fun g v wr => L5 n s.cs wb v g wr)
  case atStart => exact ⟨0, _, by omega, rfl, hr, Co.start _⟩
  clear hr
  case round =>
    obtain ⟨k, co, hk, rfl, hr, hco⟩ := hrel.ex
    clear hrel
    by_cases hlt : k < s.cs.length
    · have hd : decide ((k : Int) < (s.cs.length : Int)) = true := by simp; omega
      obtain ⟨c, hc⟩ : ∃ c, s.cs[k]? = some c := ⟨s.cs[k]'hlt, List.getElem?_eq_getElem hlt⟩
      obtain ⟨gC, g, cap, rfl, g1, g2, hcl, g3, g4⟩ := hm.cs k c hc
      have q1 : wr.cell? ⟨gC, k, none⟩ = some (.slice (some ⟨g, 0, none⟩) c.length cap) := (cells_at (hr.bel.block gC g1) k).trans g3
      have hcne : c.length ≠ 0 := fun e => hI.ne c (List.mem_of_getElem? hc) (List.eq_nil_of_length_eq_zero e)
      have hcb : ∀ m j, c[m]? = some j → j < n := fun m j hj => (hI.bnd j ((hI.cov j).2 (.inr (List.mem_flatten.2 ⟨c, List.mem_of_getElem? hc, List.mem_of_getElem? hj⟩)))).1
      have hd0 : ((c.length : Int) == 0) = false := beq_eq_false_iff_ne.2 (by omega)
      have hL6 : Hid (L6 n s.cs k c wb (.int .i64 0) c.length wr) := L6.mk ⟨0, co, by omega, rfl, hr, by simpa using hco⟩
      clear hr hco
      go_wp2
      clear q1
      obtain ⟨wp, rfl⟩ : ∃ x, x = wr := ⟨_, rfl⟩
      obtain ⟨gk1, rfl⟩ : ∃ x, x = gk := ⟨_, rfl⟩
      go_loopg [110] c.length (fun g v wr => L6 n s.cs k c wb v g wr)
      case atStart => exact hL6.out
      clear hL6
      case round =>
        obtain ⟨m, co, hm2, rfl, hr, hco⟩ := hrel.ex
        clear hrel
        by_cases hml : m < c.length
        · have hd1 : decide ((m : Int) < (c.length : Int)) = true := by simp; omega
          obtain ⟨j, hj⟩ : ∃ j, c[m]? = some j := ⟨c[m]'hml, List.getElem?_eq_getElem hml⟩
          have hjn := hcb m j hj
          obtain ⟨n1, n2, n3⟩ := hm.ndc j hjn
          have q2 : wr.cell? ⟨g, m, none⟩ = some (.pointer (some ⟨nd j, 0, none⟩)) := (cells_at (hr.bel.block g g2) m).trans (g4 m j hj)
          have q3 : wr.cell? ⟨gn, j, none⟩ = some (.pointer (some ⟨nd j, 0, none⟩)) := (cells_at (hr.bel.block gn hm.g) j).trans n2
          have q4 : wr.cell? ⟨nd j, 3, none⟩ = some (.int .i64 (j : Int)) := (cells_at (hr.bel.block _ n1) 3).trans n3
          have hsplit : c = c.take m ++ j :: c.drop (m + 1) := by
            have e := (List.getElem?_eq_some_iff.1 hj).2
            rw [← e, List.getElem_cons_drop, List.take_append_drop]
          obtain ⟨hj1, hco2⟩ := hco.next (hsplit ▸ hc) hI.nod
          have q5 := hr.c j hjn
          rw [hj1] at q5
          have q6 := hr.fr j
          have hr2 := hr.set hjn (k : Int)
          have ht : c.take m ++ [j] = c.take (m + 1) := by rw [List.take_add_one, hj]; rfl
          rw [ht] at hco2
          have FIN : Hid (L6 n s.cs k c wb (.int .i64 ((m : Int) + 1)) (c.length - (m + 1)) (wr.setCell ⟨wb.heap.size, j, none⟩ (.int .i64 (k : Int)))) := L6.mk ⟨m + 1, _, by omega, by simp, hr2, hco2⟩
          have hd2 : decide ((j : Int) < 0) = false := by simp
          have hd3 : decide ((j : Int) ≥ (n : Int)) = false := by simp; omega
          have hnq := neq28 wr ⟨nd j, 0, none⟩
          clear hr2 hco2 ht hsplit hr hco
          go_wp2
          go_roundg (c.length - (m + 1))
          case measure => omega
          case rel => exact FIN.out
        · have hd1 : decide ((m : Int) < (c.length : Int)) = false := by simp; omega
          have FIN : Hid (L5 n s.cs wb (.int .i64 ((k : Int) + 1)) (s.cs.length - (k + 1)) wr) := L5.mk ⟨k + 1, co, by omega, by simp, hr, hco.shut (by rw [List.take_of_length_le (by omega)]; exact hc)⟩
          go_wp2
          go_roundg (s.cs.length - (k + 1))
          case measure => omega
          case rel => exact FIN.out
    · have hd : decide ((k : Int) < (s.cs.length : Int)) = false := by simp; omega
      obtain rfl : k = s.cs.length := by omega
      have hEn : ∀ a b, Ed n el tg a b → b < n := fun a b h => h.2.1
      go_wp2
      refine HK.out _ _ ?_
      exact p5 w n wb.heap.size a0 cap0 ea el ec tg co wr hn (hA.below hr.bel) (by have := hr.sz; omega) ⟨hr.c, fun j => by have := hco.d j; omega⟩ (hB.trans (hr.bel.mono hz)) (fun j hj => by
        obtain ⟨k, c, _, _, h3⟩ := co_all hI hv hco j hj
        omega) (fun u t hE => co_edge hI hv hco hE.1 hE) (fun i j hi hj => co_same hI hv hco hEn hi hj) _ _ _ _ _ _ _ _ _ _ _ _ _ _ _ _ _ _ _ _ _ _ _ _ _ _ _ _ _ _ _ _ _ _ _ _ _ _ _ _ _ _ _ _ _ _ _ _ _ _ _ _ _ _ _ _ _ _ _ _ _ _ _ _ _ _ _ _ _ _ _ _ _ _ _ _ _ _ _ _ _ _ _ _ _ _ _ _ _ _ _ _ _ _ _ _ _ _ _ _ _ _ _ _ _ _ _ _ _ _ _ _ _ _ _ _ _ _ _ _ _ _ _ _ _ _ _ _ _ _ _ _ _ _ _ _ _ _ _ _ _ _ _ _ _ _ _ _ _ _ _ _ _ _ _ _ _ _ _ _ _ _ _ _ _ _ _ _ _ _ _ _ _ _ _ _ _ _ _ _ _ _ _ _ _ _ _ _ _ _ _ _ _ _ _ _ _ _ _ _ _ _ _ _ _ _ _ _ _ _ _ _ _ _ _ _ _ _ _ _ _ _ _ _ _ _ _
end Go.Proofs.Ybulkboyu.scc
