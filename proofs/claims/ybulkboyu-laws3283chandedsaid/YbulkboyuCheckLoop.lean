import Derived.Test.YbulkboyuPre
import Derived.Deep.DeepCutAuto
/-! The law's last loop (it only reads), as a declaration of its own. -/
namespace Go.Proofs.Ybulkboyu.handed
open Go.ChangeShapes Go.WideShapes Go.ChangeAt Go.RowKit

def tailN : Nat → Code → Code
  | 0, c => c
  | n + 1, .seq _ b => tailN n b
  | _ + 1, c => c
def second : Code → Code
  | .seq (.seq _ b) _ => b
  | c => c

set_option maxRecDepth 100000 in
set_option maxHeartbeats 4000000 in
theorem check (p f q m c : Nat) (e0 e1 e2 lo0 lo1 lo2 hi0 hi1 hi2 : Nat) (l0 l1 l2 d0 d1 d2 : Bool) (w w1 : World) (K : Act → World → Prop) (Q' : Exit → Act → World → Prop)
    (hp64 : p ≤ 64) (hf57 : f ≤ 57) (hq69 : q ≤ 69) (hm69 : m ≤ 69) (hc3 : c < 3)
    (HE : Hid (∀ j, pick3 e0 e1 e2 j < 18446744073709551616)) (HS : Hid (∀ j, ((pick3 (lo0, hi0) (lo1, hi1) (lo2, hi2)) j).1 < 18446744073709551616 ∧ ((pick3 (lo0, hi0) (lo1, hi1) (lo2, hi2)) j).2 < 18446744073709551616))
    (HF : Hid (Fin w.heap.size w (pick3 e0 e1 e2) (pick3 l0 l1 l2) (pick3 (lo0, hi0) (lo1, hi1) (lo2, hi2)) (fun j => gath (pick3 e0 e1 e2 j) q f ((pick3 (lo0, hi0) (lo1, hi1) (lo2, hi2)) j) (min m (p - q))) (pick3 d0 d1 d2) c w1))
    (hK : ∀ (y0 y1 y2 y3 y4 y5 y6 y7 y8 y9 y10 y11 y12 y13 y14 y15 y16 y17 y18 y19 y20 y21 y22 y23 y24 y25 y26 y27 y28 y29 y30 y31 y32 y33 y34 y35 y36 y37 y38 y39 y40 y41 y42 y43 y44 y45 y46 y47 y48 y49 y50 y51 y52 y53 y54 y55 y56 y57 y58 y59 y60 y61 y62 y63 y64 y65 y66 y67 y68 y69 y70 y71 y72 y73 y74 y75 y76 y77 y78 y79 y80 y81 y82 y83 y84 y85 y86 y87 y88 y89 y90 y91 y92 y93 y94 y95 y96 y97 y98 y99 y100 y101 y102 y103 y104 y105 y106 y107 y108 y109 y110 y111 y112 y113 y114 y115 y116 y117 y118 y119 y120 y121 y122 y123 y124 y125 y126 y127 y128 y129 y130 y131 y132 y133 y134 y135 y136 y137 y138 y139 y140 y141 y142 y143 y144 y145 y146 y147 y148 y149 y150 y151 y152 y153 y154 y155 y156 y157 y158 y159 y160 y161 y162 y163 y164 y165 y166 y167 y168 y169 y170 y171 y172 y173 y174 y175 y176 y177 y178 y179 y180 y181 y182 y183 y184 y185 y186 y187 y188 y189 y190 y191 y192 y193 y194 y195 y196 y197 y198 y199 y200 y201 y202 y203 y204 y205 y206 y207 y208 y209 y210 y211 y212 y213 y214 y215 y216 y217 y218 y219 y220 y221 y222 y223 y224 y225 y226 y227 y228 y229 y230 y231 y232 y233 y234 y235 y236 y237 y238 y239 y240 y241 y242 y243 y244 y245 y246 y247 y248 y249 y250 y251 y252 y253 y254 y255 y256 y257 y258 y259 y260 y261 y262 y263 y264 y265 y266 y267 y268 y269 y270 y271 y272 y273 y274 y275 y276 y277 y278 y279 y280 y281 y282 y283 y284 y285 y286 y287 y288 y289 y290 y291 y292 y293 : Value) (n : Nat), K ⟨List.toArray (y0 :: y1 :: y2 :: y3 :: y4 :: y5 :: y6 :: y7 :: y8 :: y9 :: y10 :: y11 :: y12 :: y13 :: y14 :: y15 :: y16 :: y17 :: y18 :: y19 :: y20 :: y21 :: y22 :: y23 :: y24 :: y25 :: y26 :: y27 :: y28 :: y29 :: y30 :: y31 :: y32 :: y33 :: y34 :: y35 :: y36 :: y37 :: y38 :: y39 :: y40 :: y41 :: y42 :: y43 :: y44 :: y45 :: y46 :: y47 :: y48 :: y49 :: y50 :: y51 :: y52 :: y53 :: y54 :: y55 :: y56 :: y57 :: y58 :: y59 :: y60 :: y61 :: y62 :: y63 :: y64 :: y65 :: y66 :: y67 :: y68 :: y69 :: y70 :: y71 :: y72 :: y73 :: y74 :: y75 :: y76 :: y77 :: y78 :: y79 :: y80 :: y81 :: y82 :: y83 :: y84 :: y85 :: y86 :: y87 :: y88 :: y89 :: y90 :: y91 :: y92 :: y93 :: y94 :: y95 :: y96 :: y97 :: y98 :: y99 :: y100 :: y101 :: y102 :: y103 :: y104 :: y105 :: y106 :: y107 :: y108 :: y109 :: y110 :: y111 :: y112 :: y113 :: y114 :: y115 :: y116 :: y117 :: y118 :: y119 :: y120 :: y121 :: y122 :: y123 :: y124 :: y125 :: y126 :: y127 :: y128 :: y129 :: y130 :: y131 :: y132 :: y133 :: y134 :: y135 :: y136 :: y137 :: y138 :: y139 :: y140 :: y141 :: y142 :: y143 :: y144 :: y145 :: y146 :: y147 :: y148 :: y149 :: y150 :: y151 :: y152 :: y153 :: y154 :: y155 :: y156 :: y157 :: y158 :: y159 :: y160 :: y161 :: y162 :: y163 :: y164 :: y165 :: y166 :: y167 :: y168 :: y169 :: y170 :: y171 :: y172 :: y173 :: y174 :: y175 :: y176 :: y177 :: y178 :: y179 :: y180 :: y181 :: y182 :: y183 :: y184 :: y185 :: y186 :: y187 :: y188 :: y189 :: y190 :: y191 :: y192 :: y193 :: y194 :: y195 :: y196 :: y197 :: y198 :: y199 :: y200 :: y201 :: y202 :: y203 :: y204 :: y205 :: y206 :: y207 :: y208 :: y209 :: y210 :: y211 :: y212 :: y213 :: y214 :: y215 :: y216 :: y217 :: y218 :: y219 :: y220 :: y221 :: y222 :: y223 :: y224 :: y225 :: y226 :: y227 :: y228 :: y229 :: y230 :: y231 :: y232 :: y233 :: y234 :: y235 :: y236 :: y237 :: y238 :: y239 :: y240 :: y241 :: y242 :: y243 :: y244 :: y245 :: y246 :: y247 :: y248 :: y249 :: y250 :: y251 :: y252 :: y253 :: y254 :: y255 :: y256 :: y257 :: y258 :: y259 :: y260 :: y261 :: y262 :: y263 :: y264 :: y265 :: y266 :: y267 :: y268 :: y269 :: y270 :: y271 :: y272 :: y273 :: y274 :: y275 :: y276 :: y277 :: y278 :: y279 :: y280 :: y281 :: y282 :: y283 :: y284 :: y285 :: y286 :: y287 :: y288 :: y289 :: y290 :: y291 :: y292 :: y293 :: []), []⟩ (w1.drewN n))
    (v0 v1 v2 v3 v4 v5 v6 v7 v8 v9 v10 v11 v12 v13 v14 v20 v26 v27 v28 v31 v32 v33 v34 v36 v37 v38 v39 v40 v41 v42 v43 v44 v45 v46 v47 v48 v49 v50 v51 v52 v53 v54 v55 v56 v57 v58 v59 v60 v61 v62 v63 v64 v65 v66 v67 v68 v69 v70 v71 v72 v73 v74 v75 v76 v77 v78 v79 v80 v81 v82 v83 v84 v85 v86 v87 v88 v89 v90 v91 v92 v93 v94 v95 v96 v97 v98 v99 v100 v101 v102 v103 v104 v105 v106 v107 v108 v109 v110 v111 v112 v113 v114 v115 v116 v117 v118 v119 v120 v121 v122 v123 v124 v125 v126 v127 v128 v129 v130 v131 v132 v133 v134 v135 v136 v137 v138 v139 v140 v141 v142 v143 v144 v145 v146 v147 v148 v149 v150 v151 v152 v153 v154 v155 v156 v157 v158 v159 v160 v161 v162 v163 v164 v165 v166 v167 v168 v169 v170 v171 v172 v173 v174 v175 v176 v177 v178 v179 v180 v181 v182 v183 v184 v185 v186 v187 v188 v189 v190 v191 v192 v193 v194 v195 v196 v197 v198 v199 v200 v201 v202 v203 v204 v205 v206 v207 v208 v209 v210 v211 v212 v213 v214 v215 v216 v217 v218 v219 v220 v221 v222 v223 v224 v225 v226 v227 v228 v229 v230 v231 v232 v233 v234 v235 v236 v237 v238 v239 v240 v241 v242 v243 v244 v245 v246 v247 v248 v249 v250 v251 v252 v253 v254 v255 v256 v257 v258 v259 v260 v261 v262 v263 v264 v265 v266 v267 v268 v269 v270 v271 v272 v273 v274 v275 v276 v277 v278 v279 v280 v281 v282 v283 v284 v285 v286 v287 v288 v289 v290 v291 v292 v293 : Value) :
    Code.wp Yba.prog (second (tailN 14 (Yba.f6.body.getD .skip))) (Exit.then K Q') ⟨List.toArray (v0 :: v1 :: v2 :: v3 :: v4 :: v5 :: v6 :: v7 :: v8 :: v9 :: v10 :: v11 :: v12 :: v13 :: v14 :: .pointer (some ⟨w.heap.size, 0, none⟩) :: .pointer (some ⟨w.heap.size + 1, 0, none⟩) :: .pointer (some ⟨w.heap.size + 2, 0, none⟩) :: .pointer (some ⟨w.heap.size + 3, 0, none⟩) :: .pointer (some ⟨w.heap.size + 4, 0, none⟩) :: v20 :: .int .i64 (p : Int) :: .int .i64 (f : Int) :: .int .i64 (q : Int) :: .int .i64 (m : Int) :: .int .i64 (c : Int) :: v26 :: v27 :: v28 :: .pointer (some ⟨w.heap.size + 12, 0, none⟩) :: .pointer (some ⟨w.heap.size + 13, 0, none⟩) :: v31 :: v32 :: v33 :: v34 :: .int .i64 0 :: v36 :: v37 :: v38 :: v39 :: v40 :: v41 :: v42 :: v43 :: v44 :: v45 :: v46 :: v47 :: v48 :: v49 :: v50 :: v51 :: v52 :: v53 :: v54 :: v55 :: v56 :: v57 :: v58 :: v59 :: v60 :: v61 :: v62 :: v63 :: v64 :: v65 :: v66 :: v67 :: v68 :: v69 :: v70 :: v71 :: v72 :: v73 :: v74 :: v75 :: v76 :: v77 :: v78 :: v79 :: v80 :: v81 :: v82 :: v83 :: v84 :: v85 :: v86 :: v87 :: v88 :: v89 :: v90 :: v91 :: v92 :: v93 :: v94 :: v95 :: v96 :: v97 :: v98 :: v99 :: v100 :: v101 :: v102 :: v103 :: v104 :: v105 :: v106 :: v107 :: v108 :: v109 :: v110 :: v111 :: v112 :: v113 :: v114 :: v115 :: v116 :: v117 :: v118 :: v119 :: v120 :: v121 :: v122 :: v123 :: v124 :: v125 :: v126 :: v127 :: v128 :: v129 :: v130 :: v131 :: v132 :: v133 :: v134 :: v135 :: v136 :: v137 :: v138 :: v139 :: v140 :: v141 :: v142 :: v143 :: v144 :: v145 :: v146 :: v147 :: v148 :: v149 :: v150 :: v151 :: v152 :: v153 :: v154 :: v155 :: v156 :: v157 :: v158 :: v159 :: v160 :: v161 :: v162 :: v163 :: v164 :: v165 :: v166 :: v167 :: v168 :: v169 :: v170 :: v171 :: v172 :: v173 :: v174 :: v175 :: v176 :: v177 :: v178 :: v179 :: v180 :: v181 :: v182 :: v183 :: v184 :: v185 :: v186 :: v187 :: v188 :: v189 :: v190 :: v191 :: v192 :: v193 :: v194 :: v195 :: v196 :: v197 :: v198 :: v199 :: v200 :: v201 :: v202 :: v203 :: v204 :: v205 :: v206 :: v207 :: v208 :: v209 :: v210 :: v211 :: v212 :: v213 :: v214 :: v215 :: v216 :: v217 :: v218 :: v219 :: v220 :: v221 :: v222 :: v223 :: v224 :: v225 :: v226 :: v227 :: v228 :: v229 :: v230 :: v231 :: v232 :: v233 :: v234 :: v235 :: v236 :: v237 :: v238 :: v239 :: v240 :: v241 :: v242 :: v243 :: v244 :: v245 :: v246 :: v247 :: v248 :: v249 :: v250 :: v251 :: v252 :: v253 :: v254 :: v255 :: v256 :: v257 :: v258 :: v259 :: v260 :: v261 :: v262 :: v263 :: v264 :: v265 :: v266 :: v267 :: v268 :: v269 :: v270 :: v271 :: v272 :: v273 :: v274 :: v275 :: v276 :: v277 :: v278 :: v279 :: v280 :: v281 :: v282 :: v283 :: v284 :: v285 :: v286 :: v287 :: v288 :: v289 :: v290 :: v291 :: v292 :: v293 :: []), []⟩ w1 := by
  conv => arg 2; whnf
  go_wp2
  go_loopw [35] (fun i wr => ∃ k n : Nat, k ≤ 3 ∧ i = .int .i64 k ∧ wr = w1.drewN n) (fun i _ => 3 - (intOf i).toNat)
  case atStart => exact ⟨0, 0, by omega, rfl, rfl⟩
  case round =>
    obtain ⟨k, nd, hk, rfl, rfl⟩ := hrel
    by_cases hlt : k < 3
    · have z1 := HF.out.t k hlt
      have z2 := HF.out.d k hlt
      have z3 := HF.out.f k hlt
      have z4 := HF.out.e_ k hlt
      have z5 := HF.out.l_ k hlt
      have z6 := HF.out.lo_ k hlt
      have z7 := HF.out.hi_ k hlt
      have z8 := HF.out.dl_ k hlt
      have z9 := HF.out.dlo k hlt
      have z10 := HF.out.dhi k hlt
      have hdk : decide ((k : Int) < 3) = true := by simp; omega
      have hex := HE.out k
      have hsx := HS.out k
      have HK1 : Hid (∀ g, g < 3 → _) := fun g => HF.out.r k g hlt
      have HK2 : Hid (∀ g, g < 3 → _) := fun g => HF.out.ra k g hlt
      have HK3 : Hid (∀ g, g < 3 → _) := fun g => HF.out.rl k g hlt
      have HK4 : Hid (∀ g, g < 3 → _) := fun g => HF.out.rx k g hlt
      generalize pick3 d0 d1 d2 k = bd at *
      generalize pick3 l0 l1 l2 k = bl at *
      generalize pick3 e0 e1 e2 k = ex at *
      generalize (pick3 (lo0, hi0) (lo1, hi1) (lo2, hi2)) k = sx at *
      have hgl := gath_lt ex q f sx hsx.1 hsx.2 (min m (p - q)) (by omega)
      have hbo := bitOf_gath ex q f sx (min m (p - q))
      generalize gath ex q f sx (min m (p - q)) = G at *
      have HB : Hid (∀ j, bitOf G j = _) := hbo
      clear hbo
      go_upto_region 33 with fail
      go_cut [149] from 133 to 293 (fun t wx => t = .bool false ∧ ∃ n, wx = w1.drewN n)
      case first =>
        cases bd
        all_goals
          (try simp only [Bool.true_or] at z3)
          (try simp only [Bool.false_or] at z3)
          go_quiet (fail)
          go_wp2
          go_meet
          case rel => exact ⟨by simp, _, World.drewN_drewN _ _ _⟩
      case rest =>
        obtain ⟨rfl, nx, rfl⟩ := hcut
        go_wp2
        go_loop [36] (fun i => ∃ n : Nat, n ≤ 128 ∧ i = .int .i64 n) (fun i => 128 - (intOf i).toNat)
        case atStart => exact ⟨0, by omega, rfl⟩
        case round =>
          obtain ⟨n, hn, rfl⟩ := hrel
          by_cases hn2 : n < 128
          · have hd128 : decide ((n : Int) < 128) = true := by simp; omega
            go_upto_if 161 with fail
            go_cut [37] from 156 to 227 (fun t wx => t = .bool (bitOf sx n) ∧ wx = w1.drewN nx)
            case first =>
              by_cases hn64 : n < 64
              · go_wp2
                go_meet
                case rel => exact ⟨by rw [shr_bit _ _ hsx.1]; simp [bitOf, hn64], rfl⟩
              · go_wp2
                go_meet
                case rel => exact ⟨by rw [shr_bit _ _ hsx.2]; simp [bitOf, hn64], rfl⟩
            case rest =>
              obtain ⟨rfl, rfl⟩ := hcut
              go_upto_region 45 with fail
              go_cut [39] from 156 to 227 (fun t wx => t = .bool (decide (f ≤ n) && decide (n - f < min m (p - q)) && ex.testBit (q + (n - f))) ∧ wx = w1.drewN nx)
              case first =>
                by_cases h1 : n < f
                · go_wp2
                  go_meet
                  case rel => exact ⟨by simp; omega, rfl⟩
                · by_cases h2 : n - f < m
                  · by_cases h3 : q + (n - f) < p
                    · go_wp2
                      go_meet
                      case rel => exact ⟨by rw [show (decide (f ≤ n) && decide (n - f < min m (p - q))) = true by simp; omega, Bool.true_and, ← shr_bit _ _ hex], rfl⟩
                    · go_wp2
                      go_meet
                      case rel => exact ⟨by rw [show (decide (f ≤ n) && decide (n - f < min m (p - q))) = false by simp; omega, Bool.false_and], rfl⟩
                  · go_wp2
                    go_meet
                    case rel => exact ⟨by rw [show (decide (f ≤ n) && decide (n - f < min m (p - q))) = false by simp; omega, Bool.false_and], rfl⟩
              case rest =>
                obtain ⟨rfl, rfl⟩ := hcut
                have hgot : ∃ gw : Nat, w1.cell? ⟨w.heap.size + 14 + 8 * k + 7, n / 64, none⟩ = some (.int .u64 (gw : Int)) ∧ gw < 18446744073709551616 ∧ gw.testBit (n % 64) = bitOf G n := by
                  by_cases hn64 : n < 64
                  · exact ⟨G.1, by rw [show n / 64 = 0 by omega]; exact z9, hgl.1, by simp [bitOf, hn64, Nat.mod_eq_of_lt hn64]⟩
                  · exact ⟨G.2, by rw [show n / 64 = 1 by omega]; exact z10, hgl.2, by simp [bitOf, hn64, show n % 64 = n - 64 by omega]⟩
                obtain ⟨gw, g1, g2, g3⟩ := hgot
                have g4 : (bits .and .u64 ((gw : Int) / 2 ^ (n % 64)) 1 == 1) = (bitOf sx n || (decide (f ≤ n) && decide (n - f < min m (p - q)) && ex.testBit (q + (n - f)))) := by rw [shr_bit _ _ g2, g3, HB.out n]
                generalize bitOf sx n = ob at *
                generalize (decide (f ≤ n) && decide (n - f < min m (p - q)) && ex.testBit (q + (n - f))) = fb at *
                clear g2 g3 z9 z10
                cases ob
                all_goals
                  (try simp only [Bool.true_or] at g4)
                  (try simp only [Bool.false_or] at g4)
                  go_wp2
                  go_round
                  case rel => exact ⟨n + 1, by omega, by go_num⟩
                  case measure => simp [intOf]; omega
          · have hn3 : 128 ≤ n := by omega
            clear z9 z10 z6 z7
            go_wp2
            go_loop [41] (fun i => ∃ g : Nat, g ≤ 3 ∧ i = .int .i64 g) (fun i => 3 - (intOf i).toNat)
            case atStart => exact ⟨0, by omega, rfl⟩
            case round =>
              obtain ⟨g, hg, rfl⟩ := hrel
              by_cases hg3 : g < 3
              · have y1 := HK1.out g hg3
                have y2 := HK2.out g hg3
                have y3 := HK3.out g hg3
                have y4 := HK4.out g hg3
                have hx64 := not64 ex hex
                by_cases hgc : g = c
                · rw [if_pos hgc] at y3 y4
                  have hgc1 : g ≤ c := by omega
                  have hgc2 : c ≤ g := by omega
                  clear hgc
                  go_wp2
                  go_round
                  case rel => exact ⟨g + 1, by omega, by go_num⟩
                  case measure => simp [intOf]; omega
                · rw [if_neg hgc] at y3 y4
                  have hgc1 : g < c ∨ c < g := by omega
                  clear hgc
                  go_wp2
                  go_round
                  case rel => exact ⟨g + 1, by omega, by go_num⟩
                  case measure => simp [intOf]; omega
              · have hg4 : 3 ≤ g := by omega
                go_wp2
                go_roundw
                case rel => exact ⟨k + 1, nx, by omega, by go_num, rfl⟩
                case measure => simp [intOf]; omega
    · have hk3 : 3 ≤ k := by omega
      go_wp2
      exact hK _ _ _ _ _ _ _ _ _ _ _ _ _ _ _ _ _ _ _ _ _ _ _ _ _ _ _ _ _ _ _ _ _ _ _ _ _ _ _ _ _ _ _ _ _ _ _ _ _ _ _ _ _ _ _ _ _ _ _ _ _ _ _ _ _ _ _ _ _ _ _ _ _ _ _ _ _ _ _ _ _ _ _ _ _ _ _ _ _ _ _ _ _ _ _ _ _ _ _ _ _ _ _ _ _ _ _ _ _ _ _ _ _ _ _ _ _ _ _ _ _ _ _ _ _ _ _ _ _ _ _ _ _ _ _ _ _ _ _ _ _ _ _ _ _ _ _ _ _ _ _ _ _ _ _ _ _ _ _ _ _ _ _ _ _ _ _ _ _ _ _ _ _ _ _ _ _ _ _ _ _ _ _ _ _ _ _ _ _ _ _ _ _ _ _ _ _ _ _ _ _ _ _ _ _ _ _ _ _ _ _ _ _ _ _ _ _ _ _ _ _ _ _ _ _ _ _ _ _ _ _ _ _ _ _ _ _ _ _ _ _ _ _ _ _ _ _ _ _ _ _ _ _ _ _ _ _ _ _ _ _ _ _ _ _ _ _ _ _ _ _ _ _ _ _ _ _ _ _ _ _ _ _ _ _ _ _ _ _ _ _ _ _ _ _

end Go.Proofs.Ybulkboyu.handed
