import Derived.Test.YbulkboyuTStep
import Derived.StillTailTactics
import Derived.Deep.LoopGhost
import Derived.BigQuiet
import Derived.Deep.DeepCutAuto
import Derived.Deep.RegionWith
import Derived.Deep.RegionLaw
import Derived.Shelf.Abstract
namespace Go.Proofs.Ybulkboyu.scc
open Go.ChangeShapes Go.WideShapes Go.ChangeAt Go.RowKit Go.Shelf

def findR (id : Nat) : Code → Option Code
  | .region i ops d => if i = id then some (.region i ops d) else none
  | .seq a b => (findR id a).orElse fun _ => findR id b
  | .cond _ a b => (findR id a).orElse fun _ => findR id b
  | .block _ c => findR id c
  | .loop c => findR id c
  | _ => none

set_option maxRecDepth 100000 in
set_option maxHeartbeats 400000 in
theorem low11 (H n i j x y : Nat) (W : World) (hi : i < n) (hj : j < n) (Q : Exit → Act → World → Prop) (c6 : W.cell? ⟨H + 6, 0, none⟩ = some (.slice (some ⟨H + 5, 0, none⟩) n n))
    (h1 : W.cell? ⟨H + 5, i, none⟩ = some (.int .i64 (x : Int))) (h2 : W.cell? ⟨H + 5, j, none⟩ = some (.int .i64 (y : Int))) (f5 : W.frozen? ⟨H + 5, i, none⟩ = false) (v1 v4 v5 v6 v7 v8 v9 v10 v11 v12 v14 v15 v16 v17 v18 v19 v20 v21 v22 v23 v24 v25 v26 v27 v28 v29 v30 v31 v32 v33 v34 v35 v36 v37 v38 v39 v40 v41 v42 v43 v44 v45 v46 v47 v48 v49 v50 v51 v52 v53 v54 v55 v56 v57 v58 v59 v60 v61 v62 v63 v64 v65 v66 v67 v68 v69 v70 v71 v72 v73 v74 v75 v76 v77 v78 v79 v80 v81 v82 v83 v84 v85 v86 v87 v88 v89 v90 v91 v92 v93 v94 v95 v96 v97 v98 v99 v100 v101 v102 v103 v104 v105 v106 v107 v108 v109 v110 v111 v112 v113 v114 v115 v116 v117 v118 v119 v120 v121 v122 v123 v124 v125 v126 v127 v128 v129 v130 v131 : Value)
    (hQ : ∀ u65 u66 u67 u68 u69 u70 u71 u72 u73 u74 u75 u76 : Value, Q .normal { tmps := List.toArray (.int .i64 (i : Int) :: v1 :: .pointer (some ⟨H + 4, 0, none⟩) :: .pointer (some ⟨H + 6, 0, none⟩) :: v4 :: v5 :: v6 :: v7 :: v8 :: v9 :: v10 :: v11 :: v12 :: .int .i64 (j : Int) :: v14 :: v15 :: v16 :: v17 :: v18 :: v19 :: v20 :: v21 :: v22 :: v23 :: v24 :: v25 :: v26 :: v27 :: v28 :: v29 :: v30 :: v31 :: v32 :: v33 :: v34 :: v35 :: v36 :: v37 :: v38 :: v39 :: v40 :: v41 :: v42 :: v43 :: v44 :: v45 :: v46 :: v47 :: v48 :: v49 :: v50 :: v51 :: v52 :: v53 :: v54 :: v55 :: v56 :: v57 :: v58 :: v59 :: v60 :: v61 :: v62 :: v63 :: v64 :: u65 :: u66 :: u67 :: u68 :: u69 :: u70 :: u71 :: u72 :: u73 :: u74 :: u75 :: u76 :: v77 :: v78 :: v79 :: v80 :: v81 :: v82 :: v83 :: v84 :: v85 :: v86 :: v87 :: v88 :: v89 :: v90 :: v91 :: v92 :: v93 :: v94 :: v95 :: v96 :: v97 :: v98 :: v99 :: v100 :: v101 :: v102 :: v103 :: v104 :: v105 :: v106 :: v107 :: v108 :: v109 :: v110 :: v111 :: v112 :: v113 :: v114 :: v115 :: v116 :: v117 :: v118 :: v119 :: v120 :: v121 :: v122 :: v123 :: v124 :: v125 :: v126 :: v127 :: v128 :: v129 :: v130 :: v131 :: []), defers := [] } (W.setCell ⟨H + 5, i, none⟩ (.int .i64 ((min x y : Nat) : Int))).drew) :
    Code.wp Yba.prog ((findR 11 (Yba.f12.body.getD .skip)).getD .skip) Q { tmps := List.toArray (.int .i64 (i : Int) :: v1 :: .pointer (some ⟨H + 4, 0, none⟩) :: .pointer (some ⟨H + 6, 0, none⟩) :: v4 :: v5 :: v6 :: v7 :: v8 :: v9 :: v10 :: v11 :: v12 :: .int .i64 (j : Int) :: v14 :: v15 :: v16 :: v17 :: v18 :: v19 :: v20 :: v21 :: v22 :: v23 :: v24 :: v25 :: v26 :: v27 :: v28 :: v29 :: v30 :: v31 :: v32 :: v33 :: v34 :: v35 :: v36 :: v37 :: v38 :: v39 :: v40 :: v41 :: v42 :: v43 :: v44 :: v45 :: v46 :: v47 :: v48 :: v49 :: v50 :: v51 :: v52 :: v53 :: v54 :: v55 :: v56 :: v57 :: v58 :: v59 :: v60 :: v61 :: v62 :: v63 :: v64 :: v65 :: v66 :: v67 :: v68 :: v69 :: v70 :: v71 :: v72 :: v73 :: v74 :: v75 :: v76 :: v77 :: v78 :: v79 :: v80 :: v81 :: v82 :: v83 :: v84 :: v85 :: v86 :: v87 :: v88 :: v89 :: v90 :: v91 :: v92 :: v93 :: v94 :: v95 :: v96 :: v97 :: v98 :: v99 :: v100 :: v101 :: v102 :: v103 :: v104 :: v105 :: v106 :: v107 :: v108 :: v109 :: v110 :: v111 :: v112 :: v113 :: v114 :: v115 :: v116 :: v117 :: v118 :: v119 :: v120 :: v121 :: v122 :: v123 :: v124 :: v125 :: v126 :: v127 :: v128 :: v129 :: v130 :: v131 :: []), defers := [] } W := by
  conv => arg 2; whnf
  have HQ : Hid _ := hQ
  clear hQ
  by_cases hlo : y < x
  · have hmin : min x y = y := Nat.min_eq_right (by omega)
    rw [hmin] at HQ
    go_region
    exact HQ.out _ _ _ _ _ _ _ _ _ _ _ _
  · have hmin : min x y = x := Nat.min_eq_left (by omega)
    rw [hmin] at HQ
    go_region
    exact HQ.out _ _ _ _ _ _ _ _ _ _ _ _

set_option maxRecDepth 100000 in
set_option maxHeartbeats 400000 in
theorem low13 (H n i j x y : Nat) (W : World) (hi : i < n) (hj : j < n) (Q : Exit → Act → World → Prop) (c4 : W.cell? ⟨H + 4, 0, none⟩ = some (.slice (some ⟨H + 3, 0, none⟩) n n)) (c6 : W.cell? ⟨H + 6, 0, none⟩ = some (.slice (some ⟨H + 5, 0, none⟩) n n))
    (h1 : W.cell? ⟨H + 5, i, none⟩ = some (.int .i64 (x : Int))) (h2 : W.cell? ⟨H + 3, j, none⟩ = some (.int .i64 (y : Int))) (f5 : W.frozen? ⟨H + 5, i, none⟩ = false) (v1 v4 v5 v6 v7 v8 v9 v10 v11 v12 v14 v15 v16 v17 v18 v19 v20 v21 v22 v23 v24 v25 v26 v27 v28 v29 v30 v31 v32 v33 v34 v35 v36 v37 v38 v39 v40 v41 v42 v43 v44 v45 v46 v47 v48 v49 v50 v51 v52 v53 v54 v55 v56 v57 v58 v59 v60 v61 v62 v63 v64 v65 v66 v67 v68 v69 v70 v71 v72 v73 v74 v75 v76 v77 v78 v79 v80 v81 v82 v83 v84 v85 v86 v87 v88 v89 v90 v91 v92 v93 v94 v95 v96 v97 v98 v99 v100 v101 v102 v103 v104 v105 v106 v107 v108 v109 v110 v111 v112 v113 v114 v115 v116 v117 v118 v119 v120 v121 v122 v123 v124 v125 v126 v127 v128 v129 v130 v131 : Value)
    (hQ : ∀ u82 u83 u84 u85 u86 u87 u88 u89 u90 u91 u92 u93 : Value, Q .normal { tmps := List.toArray (.int .i64 (i : Int) :: v1 :: .pointer (some ⟨H + 4, 0, none⟩) :: .pointer (some ⟨H + 6, 0, none⟩) :: v4 :: v5 :: v6 :: v7 :: v8 :: v9 :: v10 :: v11 :: v12 :: .int .i64 (j : Int) :: v14 :: v15 :: v16 :: v17 :: v18 :: v19 :: v20 :: v21 :: v22 :: v23 :: v24 :: v25 :: v26 :: v27 :: v28 :: v29 :: v30 :: v31 :: v32 :: v33 :: v34 :: v35 :: v36 :: v37 :: v38 :: v39 :: v40 :: v41 :: v42 :: v43 :: v44 :: v45 :: v46 :: v47 :: v48 :: v49 :: v50 :: v51 :: v52 :: v53 :: v54 :: v55 :: v56 :: v57 :: v58 :: v59 :: v60 :: v61 :: v62 :: v63 :: v64 :: v65 :: v66 :: v67 :: v68 :: v69 :: v70 :: v71 :: v72 :: v73 :: v74 :: v75 :: v76 :: v77 :: v78 :: v79 :: v80 :: v81 :: u82 :: u83 :: u84 :: u85 :: u86 :: u87 :: u88 :: u89 :: u90 :: u91 :: u92 :: u93 :: v94 :: v95 :: v96 :: v97 :: v98 :: v99 :: v100 :: v101 :: v102 :: v103 :: v104 :: v105 :: v106 :: v107 :: v108 :: v109 :: v110 :: v111 :: v112 :: v113 :: v114 :: v115 :: v116 :: v117 :: v118 :: v119 :: v120 :: v121 :: v122 :: v123 :: v124 :: v125 :: v126 :: v127 :: v128 :: v129 :: v130 :: v131 :: []), defers := [] } (W.setCell ⟨H + 5, i, none⟩ (.int .i64 ((min x y : Nat) : Int))).drew) :
    Code.wp Yba.prog ((findR 13 (Yba.f12.body.getD .skip)).getD .skip) Q { tmps := List.toArray (.int .i64 (i : Int) :: v1 :: .pointer (some ⟨H + 4, 0, none⟩) :: .pointer (some ⟨H + 6, 0, none⟩) :: v4 :: v5 :: v6 :: v7 :: v8 :: v9 :: v10 :: v11 :: v12 :: .int .i64 (j : Int) :: v14 :: v15 :: v16 :: v17 :: v18 :: v19 :: v20 :: v21 :: v22 :: v23 :: v24 :: v25 :: v26 :: v27 :: v28 :: v29 :: v30 :: v31 :: v32 :: v33 :: v34 :: v35 :: v36 :: v37 :: v38 :: v39 :: v40 :: v41 :: v42 :: v43 :: v44 :: v45 :: v46 :: v47 :: v48 :: v49 :: v50 :: v51 :: v52 :: v53 :: v54 :: v55 :: v56 :: v57 :: v58 :: v59 :: v60 :: v61 :: v62 :: v63 :: v64 :: v65 :: v66 :: v67 :: v68 :: v69 :: v70 :: v71 :: v72 :: v73 :: v74 :: v75 :: v76 :: v77 :: v78 :: v79 :: v80 :: v81 :: v82 :: v83 :: v84 :: v85 :: v86 :: v87 :: v88 :: v89 :: v90 :: v91 :: v92 :: v93 :: v94 :: v95 :: v96 :: v97 :: v98 :: v99 :: v100 :: v101 :: v102 :: v103 :: v104 :: v105 :: v106 :: v107 :: v108 :: v109 :: v110 :: v111 :: v112 :: v113 :: v114 :: v115 :: v116 :: v117 :: v118 :: v119 :: v120 :: v121 :: v122 :: v123 :: v124 :: v125 :: v126 :: v127 :: v128 :: v129 :: v130 :: v131 :: []), defers := [] } W := by
  conv => arg 2; whnf
  have HQ : Hid _ := hQ
  clear hQ
  by_cases hlo : y < x
  · have hmin : min x y = y := Nat.min_eq_right (by omega)
    rw [hmin] at HQ
    go_region
    exact HQ.out _ _ _ _ _ _ _ _ _ _ _ _
  · have hmin : min x y = x := Nat.min_eq_left (by omega)
    rw [hmin] at HQ
    go_region
    exact HQ.out _ _ _ _ _ _ _ _ _ _ _ _
end Go.Proofs.Ybulkboyu.scc
