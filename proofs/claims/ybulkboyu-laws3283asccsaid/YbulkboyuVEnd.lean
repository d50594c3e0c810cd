import Derived.Test.YbulkboyuTVis
namespace Go.Proofs.Ybulkboyu.scc
open Go.ChangeShapes Go.WideShapes Go.ChangeAt Go.RowKit Go.Shelf

structure L2 (H n : Nat) (nd : Nat → Nat) (b : World) (s : Sg) (i : Nat) (st0 S : List Nat) (base : Nat) (aC : Option Addr) (cC : Nat) (cv : List Value) (v : Value) (g : Nat) (wr : World) : Prop where
  ex : ∃ (P Q : List Nat) (aS : Option Addr) (cS : Nat) (aK : Option Addr) (cK : Nat), S = P ++ Q ∧ g = Q.length ∧ v = .slice aK P.length cK ∧ Tw H n nd b s.cnt s.idx s.low (fun j => decide (j ∈ Q ++ i :: st0)) (Q ++ i :: st0) s.cs aS cS aC cC cv wr ∧ wr.ownsRow base 28 1 (.slice aK P.length cK) P.length (ptrs nd P) ∧ base ≤ wr.heap.size

set_option maxRecDepth 100000 in
set_option maxHeartbeats 400000 in
theorem visit_end (H n gn : Nat) (nd : Nat → Nat) (eb : Nat → Option Addr) (el : Nat → Nat) (tg : Nat → Nat → Int) (b : World) (hL : Lay H n gn nd eb el tg b) (s0 s : Sg) (G : List Nat) (i : Nat) (hi : i < n) (W : World) (aS : Option Addr) (cS : Nat) (aC : Option Addr) (cC : Nat) (cv : List Value)
    (mid : Mid n (Ed n el tg) G s0 i s (Ed n el tg i)) (hI : Inv n (Ed n el tg) s0 G) (hw : s0.idx i = 0) (hT : TW H n nd b s aS cS aC cC cv W) (hwc : s.cnt + white n s.idx = s0.cnt + white n s0.idx) (hc : s0.cnt + white n s0.idx ≤ 256) (v10 v11 v12 v13 v14 v15 v16 v17 v18 v19 v20 v21 v22 v23 v24 v25 v26 v27 v28 v29 v30 v31 v32 v33 v34 v35 v36 v37 v38 v39 v40 v41 v42 v43 v44 v45 v46 v47 v48 v49 v50 v51 v52 v53 v54 v55 v56 v57 v58 v59 v60 v61 v62 v63 v64 v65 v66 v67 v68 v69 v70 v71 v72 v73 v74 v75 v76 v77 v78 v79 v80 v81 v82 v83 v84 v85 v86 v87 v88 v89 v90 v91 v92 v93 v94 v95 v96 v97 v98 v99 v100 v101 v102 v103 v104 v105 v106 v107 v108 v109 v110 v111 v112 v113 v114 v115 v116 v117 v118 v119 v120 v121 v122 v123 v124 v125 v126 v127 v128 v129 v130 v131 : Value) :
    Code.wp Yba.prog (tailN 5 (Yba.f12.body.getD .skip)) (bodyPost Yba.prog Yba.f12 (Rv H n nd el tg b G s0 i)) { tmps := List.toArray (.int .i64 (i : Int) :: .pointer (some ⟨H + 11, 0, none⟩) :: .pointer (some ⟨H + 4, 0, none⟩) :: .pointer (some ⟨H + 6, 0, none⟩) :: .pointer (some ⟨H + 9, 0, none⟩) :: .pointer (some ⟨H + 8, 0, none⟩) :: .pointer (some ⟨H, 0, none⟩) :: .pointer (some ⟨H + 2, 0, none⟩) :: .pointer (some ⟨H + 12, 0, none⟩) :: .pointer (some ⟨H + 10, 0, none⟩) :: v10 :: v11 :: v12 :: v13 :: v14 :: v15 :: v16 :: v17 :: v18 :: v19 :: v20 :: v21 :: v22 :: v23 :: v24 :: v25 :: v26 :: v27 :: v28 :: v29 :: v30 :: v31 :: v32 :: v33 :: v34 :: v35 :: v36 :: v37 :: v38 :: v39 :: v40 :: v41 :: v42 :: v43 :: v44 :: v45 :: v46 :: v47 :: v48 :: v49 :: v50 :: v51 :: v52 :: v53 :: v54 :: v55 :: v56 :: v57 :: v58 :: v59 :: v60 :: v61 :: v62 :: v63 :: v64 :: v65 :: v66 :: v67 :: v68 :: v69 :: v70 :: v71 :: v72 :: v73 :: v74 :: v75 :: v76 :: v77 :: v78 :: v79 :: v80 :: v81 :: v82 :: v83 :: v84 :: v85 :: v86 :: v87 :: v88 :: v89 :: v90 :: v91 :: v92 :: v93 :: v94 :: v95 :: v96 :: v97 :: v98 :: v99 :: v100 :: v101 :: v102 :: v103 :: v104 :: v105 :: v106 :: v107 :: v108 :: v109 :: v110 :: v111 :: v112 :: v113 :: v114 :: v115 :: v116 :: v117 :: v118 :: v119 :: v120 :: v121 :: v122 :: v123 :: v124 :: v125 :: v126 :: v127 :: v128 :: v129 :: v130 :: v131 :: []), defers := [] } W := by
  conv => arg 2; whnf
  have l0 := hL.of hT.same
  have c4 := l0.c4
  have c6 := l0.c6
  have q3 := hT.ix i hi
  have q5 := hT.lw i hi
  by_cases hne : s.low i = s.idx i
  · have hd : decide (((s.low i : Nat) : Int) = ((s.idx i : Nat) : Int)) = true := by simp [hne]
    rw [hne] at q5
    go_upto_region 15 with fail
    go_quiet (fail)
    clear c4 c6 q3 q5 l0
    go_wp2
    refine at_world fun W1 hW1 => ?_
    have t1 : TW H n nd b s aS cS aC cC cv W1 := by rw [hW1]; exact hT.grown rfl rfl rfl (Nat.le_refl _) (fun _ _ => rfl)
    clear hW1 hT hd
    obtain ⟨S, hS, _, _⟩ := mid.st
    have hnd : s.st.Nodup := nod_of mid.inv.srt
    have hlen := mid.inv.len
    have hst : L2 H n nd b s i s0.st S W1.heap.size aC cC cv (.slice none 0 0) S.length W1 :=
      ⟨[], S, aS, cS, none, 0, rfl, rfl, rfl, by rw [← hS]; exact t1, ⟨rfl, .inl ⟨rfl, rfl⟩⟩, Nat.le_refl _⟩
    have hz1 := t1.sz
    have hlt1 : ∀ (k : Nat) (v : Value), cv[k]? = some v → ∀ q, v.ownBlock = some q → q < W1.heap.size := t1.lt
    go_loopg [15] S.length (fun g v wr => L2 H n nd b s i s0.st S W1.heap.size aC cC cv v g wr)
    case atStart => exact hst
    clear hst
    case round =>
      obtain ⟨P, Q, aS2, cS2, aK, cK, hPQ, hg, rfl, t2, hK, hbz⟩ := hrel.ex
      clear hrel
      obtain ⟨j, rest, hjr, hjQ⟩ : ∃ j rest, Q ++ i :: s0.st = j :: rest ∧ ((∃ Q2, Q = j :: Q2 ∧ rest = Q2 ++ i :: s0.st) ∨ (Q = [] ∧ j = i ∧ rest = s0.st)) := by
        cases Q with
        | nil => exact ⟨i, s0.st, rfl, .inr ⟨rfl, rfl, rfl⟩⟩
        | cons a Q2 => exact ⟨a, Q2 ++ i :: s0.st, rfl, .inl ⟨Q2, rfl, rfl⟩⟩
      rw [hjr] at t2
      have hfull : s.st = P ++ j :: rest := by rw [hS, hPQ, List.append_assoc, hjr]
      have hjm : j ∈ s.st := by rw [hfull]; simp
      have hjn : j < n := (mid.inv.bnd j (mid.inv.stn hjm)).1
      have hjr2 : j ∉ rest := by
        rw [hfull] at hnd
        exact (List.nodup_cons.1 (List.nodup_append.1 hnd).2.1).1
      have hPl : P.length + (rest.length + 1) = s.st.length := by rw [hfull]; simp
      obtain ⟨gS, rfl, q9, r1, r2⟩ := t2.top
      have c9 : wr.cell? ⟨H + 9, 0, none⟩ = some (.slice (some ⟨gS, 0, none⟩) (rest.length + 1) cS2) := t2.sS
      have f9 := t2.fr (H + 9) (by omega) (by omega) 0
      have s1 : (rest.length : Int) ≤ (cS2 : Int) := by omega
      have s2 : rest.length ≤ cS2 := by omega
      go_upto_region 19 with fail
      refine at_world fun W3 hW3 => ?_
      have t3 := t2.popped
      have hK3 : W3.ownsRow W1.heap.size 28 1 (.slice aK P.length cK) P.length (ptrs nd P) := by rw [hW3]; exact row_put hK (by omega)
      have hb3 : W3.heap.size = wr.heap.size := by rw [hW3]; simp
      rw [← hW3] at t3
      clear hW3 t2 hK c9 f9 q9
      have l3 := hL.of t3.same
      have c8 := l3.c8
      have c7 := t3.on j hjn
      have f7 := t3.fr (H + 7) (by omega) (by omega) j
      go_upto_region 20 with fail
      refine at_world fun W4 hW4 => ?_
      have t4 := t3.onset hjn false
      rw [on_pop hjr2] at t4
      have hK4 : W4.ownsRow W1.heap.size 28 1 (.slice aK P.length cK) P.length (ptrs nd P) := by rw [hW4]; exact row_put hK3 (by omega)
      have hb4 : W4.heap.size = wr.heap.size := by rw [hW4]; simp [hb3]
      rw [← hW4] at t4
      clear hW4 t3 hK3 c8 c7 f7 l3
      have l4 := hL.of t4.same
      have c0 := l4.c0
      obtain ⟨_, n2, _, _⟩ := l4.nd j hjn
      obtain ⟨g, cap, w5, hrun, hown, hgr⟩ := app1 W4 W1.heap.size 24 28 24 _ 8 Yba.underlying24 info28 rfl (by decide) aK cK P.length _ hK4 (.pointer (some ⟨nd j, 0, none⟩)) rfl (by omega) (by omega)
      have hown' : w5.ownsRow W1.heap.size 28 1 (.slice (some ⟨g, 0, none⟩) (P.length + 1) cap) (P.length + 1) (ptrs nd (P ++ [j])) := by simpa using hown
      have t5 : Tw H n nd b s.cnt s.idx s.low (fun j => decide (j ∈ rest)) rest s.cs (some ⟨gS, 0, none⟩) cS2 aC cC cv w5 :=
        t4.grow hgr (fun k hk => by have := (hK4.lt k hk).1; omega) (apart t4.rS hK4 (by decide)) (apart t4.rC hK4 (by decide)) (fun k v hk => by
          cases hv : v.ownBlock with
          | none => exact .inl rfl
          | some q =>
            right
            intro e
            have h1 := hlt1 k v hk q hv
            have h2 := (hK4.lt q e.symm).1
            omega)
      have hb5 : W1.heap.size ≤ w5.heap.size := by have := hgr.size; omega
      clear hown hgr hK4 t4
      go_upto_region 21 with (first | (at_builtin; refine wpList_append_run rfl (.tmp 118) (.tmp 123) 24 24 rfl (.slice aK P.length cK) (.slice (some ⟨W4.heap.size, 0, none⟩) 1 1) (by simp [Act.eval]) (by simp [Act.eval]) _ _ hrun ?_))
      clear hrun c0 n2 l4
      rcases hjQ with ⟨Q2, rfl, hrest⟩ | ⟨rfl, rfl, rfl⟩
      · have hji : j ≠ i := fun e => hjr2 (by rw [hrest, e]; simp)
        have hd : decide ((j : Int) = (i : Int)) = false := by simp; omega
        have FIN : Hid (L2 H n nd b s i s0.st S W1.heap.size aC cC cv (.slice (some ⟨g, 0, none⟩) (P.length + 1) cap) Q2.length w5) :=
          L2.mk ⟨P ++ [j], Q2, _, _, some ⟨g, 0, none⟩, cap, by rw [hPQ]; simp, rfl, by simp, by rw [← hrest]; exact t5, by simpa using hown', hb5⟩
        clear t5 hown'
        go_wp2
        go_roundg Q2.length
        case measure => simp at hg; omega
        case rel => exact FIN.out
      · have hd : decide ((j : Int) = (j : Int)) = true := by simp
        have hPS : S = P := by rw [hPQ]; simp
        subst hPS
        clear hPQ hjr hfull
        have c10 := t5.sC
        have hln := mid.inv.ln
        obtain ⟨g6, cap6, w6, hrun6, hown6, hgr6⟩ := app1 w5 (H + 13) 37 24 37 _ 24 Yba.underlying37 info24 rfl (by decide) aC cC s.cs.length _ t5.rC (.slice (some ⟨g, 0, none⟩) (S.length + 1) cap) rfl (by omega) t5.sz
        obtain ⟨k10, kf10, t6⟩ := t5.emitted (c := S ++ [j]) (by simp) hown' (by omega) hgr6 hown6
        go_wp2_with (first | (at_builtin; refine wpList_append_run rfl (.tmp 128) (.tmp 130) 37 37 rfl (.slice aC s.cs.length cC) (.slice (some ⟨w5.heap.size, 0, none⟩) 1 1) (by simp [Act.eval]) (by simp [Act.eval]) _ _ hrun6 ?_))
        refine bodyPost_end (results_none Yba.results12 _ _ _) rfl ⟨rfl, { s with st := s0.st, cs := s.cs ++ [S ++ [j]] }, _, _, _, _, _, t6, mid.emit hI hne hS, hwc⟩
  · have hd : decide (((s.low i : Nat) : Int) = ((s.idx i : Nat) : Int)) = false := by simp; omega
    go_upto_region 15 with fail
    go_quiet (fail)
    go_wp2
    refine bodyPost_ret (results_none Yba.results12 _ _ _) rfl ⟨rfl, s, aS, cS, aC, cC, cv, hT.grown rfl rfl rfl (Nat.le_refl _) (fun _ _ => rfl), mid.stay hw hne, hwc⟩
end Go.Proofs.Ybulkboyu.scc
