import Derived.Test.YbulkbpayClose
import Derived.Test.YbulkbpayPlain
import Derived.ChangeKeysEq
namespace Go.Proofs.Ybulkbpay.un
open Go.ChangeShapes Go.WideShapes Go.ChangeAt Go.RowKit

structure P2 (N : Nat) (w0 W0 : World) (go co cb : Nat) (ab : Option Addr) (os : List OE) (f : Nat → BE) (bl k : Nat) (W : World) : Prop where
  bel : Below N w0 W
  size : W0.heap.size ≤ W.heap.size
  block : ∀ j, j < W0.heap.size → j ≠ N → j ≠ N + 2 → W.heap[j]? = W0.heap[j]?
  kle : k ≤ os.length
  c5 : ∃ b, W.cell? ⟨N + 2, 5, none⟩ = some (.bool b)
  c6 : W.cell? ⟨N + 2, 6, none⟩ = some (.slice (some ⟨go, 0, none⟩) k co)
  c8 : W.cell? ⟨N + 2, 8, none⟩ = some (.map (some N))
  fr : ∀ o, W.frozen? ⟨N + 2, o, none⟩ = false
  bnd : ∃ nb, nb ≤ bl ∧ (∀ (k' : Nat) (x : OE), k = k' + 1 → os[k']? = some x → x.mark ≤ nb) ∧ W.cell? ⟨N + 2, 7, none⟩ = some (.slice ab nb cb) ∧ Mp W N (scF f nb)

theorem P2.start {N : Nat} {w0 W0 : World} {go co cb cs : Nat} {ab aS : Option Addr} {os : List OE} {bs : List BE} {ss : List (Nat → Int)} {sc : Nat → Int} (hB : Below N w0 W0) (st : St N W0 (some ⟨go, 0, none⟩) ab aS co cb cs os bs ss sc) (coh : Coh os bs ss sc) :
    P2 N w0 W0 go co cb ab os (nth bs) bs.length os.length W0 :=
  ⟨hB, Nat.le_refl _, fun _ _ _ _ => rfl, Nat.le_refl _, st.c5, st.c6, st.c8, st.fr, bs.length, Nat.le_refl _, fun _ x _ hx => (coh.o _ x hx).1, st.c7, coh.sc ▸ st.mp⟩

theorem cells_at {W W' : World} {g : Nat} (h : W'.heap[g]? = W.heap[g]?) (o : Nat) : W'.cell? ⟨g, o, none⟩ = W.cell? ⟨g, o, none⟩ := by simp only [World.cell?, h]

/-- the reader's state is such as closeElement asks for, at a world that has grown -/
theorem P2.pre {N : Nat} {w0 W0 W : World} {go co cb cs : Nat} {ab aS : Option Addr} {os : List OE} {bs : List BE} {ss : List (Nat → Int)} {sc : Nat → Int} {k : Nat} (st : St N W0 (some ⟨go, 0, none⟩) ab aS co cb cs os bs ss sc) (coh : Coh os bs ss sc) (ho : os.length ≤ 1100) (hbl : bs.length ≤ 1100)
    (h : P2 N w0 W0 go co cb ab os (nth bs) bs.length (k + 1) W) {x : OE} (hx : os[k]? = some x) {W' : World} (hW : Below W.heap.size W W') {nb : Nat} (n1 : nb ≤ bs.length) (n2 : x.mark ≤ nb) (n3 : W.cell? ⟨N + 2, 7, none⟩ = some (.slice ab nb cb)) (n4 : Mp W N (scF (nth bs) nb)) :
    Pre W' N go co k nb cb ab x.l x.mark (nth bs) (scF (nth bs) nb) := by
  have hs := st.size
  have hs2 := h.size
  obtain ⟨g1, g2, g3, g4, g5⟩ := row_facts st.ro
  have hbk : ∀ j, j < W0.heap.size → j ≠ N → j ≠ N + 2 → W'.heap[j]? = W0.heap[j]? := fun j j1 j2 j3 => (hW.block j (by omega)).trans (h.block j j1 j2 j3)
  have hc : ∀ o, W'.cell? ⟨N + 2, o, none⟩ = W.cell? ⟨N + 2, o, none⟩ := fun o => cells_at (hW.block (N + 2) (by omega)) o
  have hkl := h.kle
  have hg : ∀ i (v : Value), i < 4 → (oc x)[i]? = some v → W'.cell? ⟨go, k * 4 + i, none⟩ = some v := fun i v hi hv => by
    rw [cells_at (hbk go g2 (by omega) (by omega))]
    exact g5 _ v ((flat_get oc 4 (fun _ => rfl) os k x i hx hi).trans hv)
  refine ⟨by have := hW.size; omega, ⟨g1, by have := hW.size; omega⟩, ⟨by omega, g4, by omega⟩, ⟨n2, ?_, ?_, by omega⟩, ?_, ?_, ?_, ?_, ?_, hg 0 _ (by decide) rfl, hg 1 _ (by decide) rfl, hg 2 _ (by decide) rfl, hg 3 _ (by decide) rfl, ?_, coh.hf (by omega), ?_⟩
  · rcases st.rb.2 with ⟨e, e2⟩ | ⟨g', cap', cur, e, _, _, e3, _⟩
    · omega
    · cases e; omega
  · rcases st.rb.2 with ⟨e, e2⟩ | ⟨g', cap', cur, e, _, _, e3, e4, _⟩
    · obtain ⟨_, _, rfl⟩ : ab = none ∧ bs.length = 0 ∧ cb = 0 := by simpa using e
      exact Nat.zero_le _
    · cases e; exact e4
  · rw [hc]; exact h.c5
  · rw [hc]; exact h.c6
  · rw [hc]; exact n3
  · rw [hc]; exact h.c8
  · intro o; rw [hW.frozen (p := ⟨N + 2, o, none⟩) (by show N + 2 < _; omega)]; exact h.fr o
  · rcases st.rb.2 with ⟨e, e2⟩ | ⟨g', cap', cur, e, e1, e2, e3, e4, e5, e6⟩
    · obtain ⟨rfl, _, rfl⟩ : ab = none ∧ bs.length = 0 ∧ cb = 0 := by simpa using e
      exact .inl ⟨rfl, by omega, rfl⟩
    · cases e
      right
      obtain ⟨r1, r2, r3, r4, r5⟩ := row_facts st.rb
      refine ⟨g', rfl, r1, by have := hW.size; omega, fun j hj => ?_⟩
      have hn : bs[j]? = some (nth bs j) := by simp [nth, List.getElem?_eq_getElem (show j < bs.length by omega)]
      have hq : ∀ i (v : Value), i < 3 → (bc (nth bs j))[i]? = some v → W'.cell? ⟨g', j * 3 + i, none⟩ = some v := fun i v hi hv => by
        rw [cells_at (hbk g' r2 (by omega) (by omega))]
        exact r5 _ v ((flat_get bc 3 (fun _ => rfl) bs j _ i hn hi).trans hv)
      exact ⟨hq 0 _ (by decide) rfl, hq 1 _ (by decide) rfl, hq 2 _ (by decide) rfl⟩
  · exact n4.block (hW.block N (by omega))

theorem P2.next {N : Nat} {w0 W0 W W1 w2 W3 : World} {go co cb cs : Nat} {ab aS : Option Addr} {os : List OE} {bs : List BE} {ss : List (Nat → Int)} {sc : Nat → Int} {k : Nat} (st : St N W0 (some ⟨go, 0, none⟩) ab aS co cb cs os bs ss sc) (coh : Coh os bs ss sc)
    (h : P2 N w0 W0 go co cb ab os (nth bs) bs.length (k + 1) W) {x : OE} (hx : os[k]? = some x) (b1 : Below W.heap.size W W1) (hp : Post W1 w2 N go co k cb x.mark ab (scF (nth bs) x.mark)) (b3 : Below w2.heap.size w2 W3) :
    P2 N w0 W0 go co cb ab os (nth bs) bs.length k W3 := by
  have hs := st.size
  have hs2 := h.size
  have hz1 := b1.size
  have hz2 := hp.size
  have hz3 := b3.size
  have hbk : ∀ j, j < W.heap.size → j ≠ N → j ≠ N + 2 → W3.heap[j]? = W.heap[j]? := fun j j1 j2 j3 => (b3.block j (by omega)).trans ((hp.block j (by omega) j2 j3).trans (b1.block j j1))
  have hc : ∀ o, W3.cell? ⟨N + 2, o, none⟩ = w2.cell? ⟨N + 2, o, none⟩ := fun o => cells_at (b3.block (N + 2) (by omega)) o
  refine ⟨h.bel.trans ⟨?_, ?_, ?_, by omega, fun j hj => ?_⟩, by omega, fun j j1 j2 j3 => (hbk j (by omega) j2 j3).trans (h.block j j1 j2 j3), by have := h.kle; omega, ⟨_, (hc 5).trans hp.c5⟩, (hc 6).trans hp.c6, (hc 8).trans hp.c8, fun o => ?_, x.mark, (coh.o k x hx).1, fun k' y hk hy => ?_, (hc 7).trans hp.c7, hp.mp.block (b3.block N (by omega))⟩
  · exact b3.os.trans (hp.os.trans b1.os)
  · exact b3.tape.trans (hp.tape.trans b1.tape)
  · exact b3.output.trans (hp.output.trans b1.output)
  · exact hbk j (by omega) (by omega) (by omega)
  · rw [b3.frozen (p := ⟨N + 2, o, none⟩) (by show N + 2 < _; omega)]; exact hp.fr o
  · subst hk; exact coh.mono k' y x hy hx

theorem neq35 (w : World) : (binOp .neq 35 (.slice none 0 0) (.slice none 0 0)).run Yba.prog w = .ok (.bool false) w := by kernel_rfl
theorem neq22 (w : World) : (binOp .neq 22 (.slice none 0 0) (.slice none 0 0)).run Yba.prog w = .ok (.bool false) w := by kernel_rfl

structure Gr (W : World) where
  w : World
  h : Below W.heap.size W w

theorem und47 : Yba.prog.underlying 47 = some (.array 3 3) := by kernel_rfl
theorem cells3 : Yba.prog.cellsOf 3 = 1 := by kernel_rfl
theorem info3 : ∃ i, Yba.prog.info? 3 = some i := ⟨Yba.t3, Yba.type3⟩
theorem eq47 (w : World) (d : Nat) (a b c : Int) : (Op.equalIn (d + 2) 47 (.agg #[.int .i64 a, .int .i64 b, .int .i64 c]) (.agg #[.int .i64 a, .int .i64 b, .int .i64 c])).run Yba.prog w = .ok true w := by
  obtain ⟨i, hi⟩ := info3
  rw [run_equalIn_array w (d + 1) _ _ und47 hi, cells3]
  simp [Op.eqItems, List.range_succ, go_sem, Op.equalIn]


set_option maxRecDepth 100000 in
set_option maxHeartbeats 1000000 in
theorem phase2 (N : Nat) (w0 W0 : World) (go gs co cb cs : Nat) (ab : Option Addr) (os : List OE) (bs : List BE) (ss : List (Nat → Int)) (sc : Nat → Int) (hB : Below N w0 W0) (st : St N W0 (some ⟨go, 0, none⟩) ab (some ⟨gs, 0, none⟩) co cb cs os bs ss sc) (coh : Coh os bs ss sc) (ho : os.length ≤ 1100) (hbl : bs.length ≤ 1100) (a1 : Int)
    (v0 v2 v3 v4 v7 v8 v9 v10 v11 v12 v13 v14 v15 v16 v17 v18 v19 v20 v21 v22 v23 v24 v25 v26 v27 v28 v29 v30 v31 v32 v33 v34 v35 v36 v37 v38 v39 v40 v41 v42 v43 v44 v45 v46 v47 v48 v49 v50 v51 v52 v53 v54 v55 v56 v57 v58 v59 v60 v61 v62 v63 v64 v65 v66 v67 v68 v69 v70 v71 v72 v73 v74 v75 v76 v77 v78 v79 v80 v81 v82 v83 v84 v85 v86 v87 v88 v89 v90 v91 v92 v93 v94 v95 v96 v97 v98 v99 v100 v101 v102 v103 v104 v105 v106 v107 v108 v109 v110 v111 v112 v113 v114 v115 v116 v117 v118 v119 v120 v121 v122 v123 v124 v125 v126 v127 v128 v129 v130 v131 v132 v133 v134 v135 v136 : Value) :
    Code.wp Yba.prog (tailN 6 (Yba.f3.body.getD .skip)) (bodyPost Yba.prog Yba.f3 fun e w' => e = .returned (.bool true) ∧ Below N w0 w') { tmps := List.toArray (v0 :: .int .i64 a1 :: v2 :: v3 :: v4 :: .pointer (some ⟨N + 2, 0, none⟩) :: .slice (some ⟨gs, 0, none⟩) ss.length cs :: v7 :: v8 :: v9 :: v10 :: v11 :: v12 :: v13 :: v14 :: v15 :: v16 :: v17 :: v18 :: v19 :: v20 :: v21 :: v22 :: v23 :: v24 :: v25 :: v26 :: v27 :: v28 :: v29 :: v30 :: v31 :: v32 :: v33 :: v34 :: v35 :: v36 :: v37 :: v38 :: v39 :: v40 :: v41 :: v42 :: v43 :: v44 :: v45 :: v46 :: v47 :: v48 :: v49 :: v50 :: v51 :: v52 :: v53 :: v54 :: v55 :: v56 :: v57 :: v58 :: v59 :: v60 :: v61 :: v62 :: v63 :: v64 :: v65 :: v66 :: v67 :: v68 :: v69 :: v70 :: v71 :: v72 :: v73 :: v74 :: v75 :: v76 :: v77 :: v78 :: v79 :: v80 :: v81 :: v82 :: v83 :: v84 :: v85 :: v86 :: v87 :: v88 :: v89 :: v90 :: v91 :: v92 :: v93 :: v94 :: v95 :: v96 :: v97 :: v98 :: v99 :: v100 :: v101 :: v102 :: v103 :: v104 :: v105 :: v106 :: v107 :: v108 :: v109 :: v110 :: v111 :: v112 :: v113 :: v114 :: v115 :: v116 :: v117 :: v118 :: v119 :: v120 :: v121 :: v122 :: v123 :: v124 :: v125 :: v126 :: v127 :: v128 :: v129 :: v130 :: v131 :: v132 :: v133 :: v134 :: v135 :: v136 :: []), defers := [] } W0 := by
  conv => arg 2; whnf
  have hst := P2.start hB st coh
  go_wp2
  go_loopg [] os.length (fun k wr => P2 N w0 W0 go co cb ab os (nth bs) bs.length k wr)
  case atStart => exact hst
  clear hst
  case round =>
    have c6 := hrel.c6
    have c8 := hrel.c8
    obtain ⟨b5, c5⟩ := hrel.c5
    obtain ⟨nb, n1, n2, n3, n4⟩ := hrel.bnd
    by_cases hk : gk = 0
    · subst hk
      go_wp2
      go_ret
      exact ⟨rfl, hrel.bel⟩
    · obtain ⟨k, rfl⟩ : ∃ k, gk = k + 1 := ⟨gk - 1, by omega⟩
      have hkl := hrel.kle
      obtain ⟨x, hx⟩ : ∃ x, os[k]? = some x := ⟨os[k]'(by omega), List.getElem?_eq_getElem (by omega)⟩
      have hd0 : decide (((k + 1 : Nat) : Int) > 0) = true := by simp
      have hpre := fun W' (hW : Below wr.heap.size wr W') => hrel.pre st coh ho hbl hx hW n1 (n2 k x rfl hx) n3 n4
      have p0 := hpre wr (Below.refl _ _)
      have t0 := p0.t0
      have t1 := p0.t1
      have t2 := p0.t2
      have t3 := p0.t3
      clear p0
      go_upto_region 16 with fail
      refine at_world fun W1 hW1 => ?_
      have b1 : Below wr.heap.size wr W1 := by rw [hW1]; exact (Below.refl _ _).alloc (Nat.le_refl _) _
      have s1 : W1.heap.size = wr.heap.size + 1 := by rw [hW1]; simp
      have d1 : W1.heap[wr.heap.size]? = some (.cells #[.string x.l, .string ⟨#[110]⟩, .string x.l, .int .i64 (x.mark : Int)] 42 (0, 0)) := by rw [hW1]; exact World.alloc_heap_new _ _
      clear hW1 t0 t1 t2 t3 c5 c6 c8 n3 hd0
      have HP : Hid _ := hpre
      have HD1 : Hid _ := d1
      clear hpre d1
      go_upto_region 17 with (first | (go_at_call 8; refine (close_any _ N go co k nb cb ab x.l x.mark (nth bs) (scF (nth bs) nb) a1 (HP.out _ b1)).mono ?_; rintro e w2 ⟨rfl, hpost⟩))
      rw [unwound_scF (nth bs) _ nb x.mark (n2 k x rfl hx) (fun j hj => (coh.b j (by omega)).2)] at hpost
      refine at_world fun W3 hW3 => ?_
      have b3 : Below w2.heap.size w2 W3 := by rw [hW3]; exact (Below.refl _ _).alloc (Nat.le_refl _) _
      have d3 : W3.heap[w2.heap.size]? = some (.cells #[.int .i64 2, .string ⟨#[110]⟩, .string x.l, .slice none 0 0, .slice none 0 0, .int .i64 a1] 45 (0, 0)) := by rw [hW3]; exact World.alloc_heap_new _ _
      clear hW3
      have hz := st.size
      have hz2 := hrel.size
      have hz3 := hpost.size
      have d1 : W3.heap[wr.heap.size]? = some (.cells #[.string x.l, .string ⟨#[110]⟩, .string x.l, .int .i64 (x.mark : Int)] 42 (0, 0)) := (b3.block _ (by omega)).trans ((hpost.block _ (by omega) (by omega) (by omega)).trans HD1.out)
      have hnx := hrel.next st coh hx b1 hpost b3
      have x0 : W3.cell? ⟨w2.heap.size, 0, none⟩ = some (.int .i64 2) := by simp [World.cell?, d3]
      have x1 : W3.cell? ⟨w2.heap.size, 1, none⟩ = some (.string ⟨#[110]⟩) := by simp [World.cell?, d3]
      have x2 : W3.cell? ⟨w2.heap.size, 2, none⟩ = some (.string x.l) := by simp [World.cell?, d3]
      have x3 : W3.cell? ⟨w2.heap.size, 3, none⟩ = some (.slice none 0 0) := by simp [World.cell?, d3]
      have x4 : W3.cell? ⟨w2.heap.size, 4, none⟩ = some (.slice none 0 0) := by simp [World.cell?, d3]
      have x5 : W3.cell? ⟨w2.heap.size, 5, none⟩ = some (.int .i64 a1) := by simp [World.cell?, d3]
      have y1 : W3.cell? ⟨wr.heap.size, 1, none⟩ = some (.string ⟨#[110]⟩) := by simp [World.cell?, d1]
      have y2 : W3.cell? ⟨wr.heap.size, 2, none⟩ = some (.string x.l) := by simp [World.cell?, d1]
      have y3 : W3.cell? ⟨wr.heap.size, 3, none⟩ = some (.int .i64 (x.mark : Int)) := by simp [World.cell?, d1]
      clear d1 d3 HD1 HP
      have z35 := neq35
      have z22 := neq22
      go_upto_region 19 with fail
      clear z35 z22 x0 x1 x2 x3 x4 x5 y1 y2
      have c6 := hnx.c6
      have c7 : W3.cell? ⟨N + 2, 7, none⟩ = some (.slice ab x.mark cb) := (cells_at (b3.block (N + 2) (by omega)) 7).trans hpost.c7
      go_quiet (fail)
      go_upto_region 21 with fail
      clear c6 c7 y3
      refine at_world fun W4 hW4 => ?_
      have b4 : Below W3.heap.size W3 W4 := by rw [hW4]; exact ⟨rfl, rfl, rfl, Nat.le_refl _, fun _ _ => rfl⟩
      clear hW4
      have hz5 := b3.size
      have hn4 := hrel.next st coh hx b1 hpost (b3.trans (b4.mono b3.size))
      have m4 : Mp W4 N (scF (nth bs) x.mark) := hpost.mp.block ((b4.block N (by omega)).trans (b3.block N (by omega)))
      have c5 : W4.cell? ⟨N + 2, 5, none⟩ = some (.bool (decide ((k : Int) = 0))) := (cells_at ((b4.block (N + 2) (by omega)).trans (b3.block (N + 2) (by omega))) 5).trans hpost.c5
      obtain ⟨g1, g2, g3, g4, g5⟩ := row_facts st.rs
      have hss := (coh.o k x hx).2
      have hlen : Hid (ss.length = os.length) := coh.len
      have hkss : k < ss.length := by have := hlen.out; omega
      have hz4 := hn4.size
      have HG : ∀ (s : Gr W4) i v, i < 4 → (cellsOf (scF (nth bs) x.mark))[i]? = some v → s.w.cell? ⟨gs, k * 4 + i, none⟩ = some v := fun s i v hi hv => by
        rw [cells_at ((s.h.block gs (by omega)).trans (hn4.block gs g2 (by omega) (by omega)))]
        exact g5 _ v ((flat_get cellsOf 4 (fun _ => rfl) ss k _ i hss hi).trans hv)
      have q0 : ∀ s : Gr W4, s.w.cell? ⟨gs, k * 4, none⟩ = some (.int .i64 (scF (nth bs) x.mark 0)) := fun s => HG s 0 _ (by decide) rfl
      have q1 := fun s => HG s 1 _ (by decide) rfl
      have q2 := fun s => HG s 2 _ (by decide) rfl
      have q3 := fun s => HG s 3 _ (by decide) rfl
      have q8 : ∀ s : Gr W4, s.w.cell? ⟨N + 2, 8, none⟩ = some (.map (some N)) := fun s => (cells_at (s.h.block (N + 2) (by omega)) 8).trans hn4.c8
      have qm : ∀ s : Gr W4, Mp s.w N (scF (nth bs) x.mark) := fun s => m4.block (s.h.block N (by omega))
      have ql : ∀ s : Gr W4, (Builtin.len_ #[33] 3 #[.map (some N)]).run Yba.prog s.w = .ok (.int .i64 (cnt (scF (nth bs) x.mark) : Nat)) s.w := fun s => (qm s).len 3
      have HT : Hid (∀ s : Gr W4, Calls Yba.prog 9 #[.pointer (some ⟨N + 2, 0, none⟩)] s.w fun e w' => e = .returned (.agg #[.int .i64 (scF (nth bs) x.mark 0), .int .i64 (scF (nth bs) x.mark 1), .int .i64 (scF (nth bs) x.mark 2), .int .i64 (cnt (scF (nth bs) x.mark) : Nat)]) ∧ ∃ s' : Gr W4, w' = s'.w) := fun s =>
        (take_any s.w (N + 2) N _ (q8 s) (qm s)).mono fun e w' ⟨h1, h2⟩ => ⟨h1, ⟨w', s.h.trans (h2.mono s.h.size)⟩, rfl⟩
      have QM : Hid _ := qm
      have e47 : ∀ s : Gr W4, (Op.equalIn 9999 47 (.agg #[.int .i64 (scF (nth bs) x.mark 0), .int .i64 (scF (nth bs) x.mark 1), .int .i64 (scF (nth bs) x.mark 2)]) (.agg #[.int .i64 (scF (nth bs) x.mark 0), .int .i64 (scF (nth bs) x.mark 1), .int .i64 (scF (nth bs) x.mark 2)])).run Yba.prog s.w = .ok true s.w := fun s => eq47 s.w 9997 _ _ _
      clear qm HG
      have hne : Nonempty (Gr W4) := ⟨⟨W4, Below.refl _ _⟩⟩
      refine wp_region_quiet (C := fun w' => ∃ s : Gr W4, w' = s.w) (by kernel_rfl) (by kernel_rfl) ⟨⟨W4.drew, ⟨rfl, rfl, rfl, Nat.le_refl _, fun _ _ => rfl⟩⟩, rfl⟩ ?_
      simp only
      refine wpQuiet_step (fun K hK => ?_)
      go_simp
      refine hK _ ?_
      clear hK K
      repeat (quiet_step (exact HT.out _))
      refine wpQuiet_nil ?_
      rintro w5 ⟨s, rfl⟩
      have hz6 := b4.size
      have c5' : s.w.cell? ⟨N + 2, 5, none⟩ = some (.bool (decide ((k : Int) = 0))) := (cells_at (s.h.block (N + 2) (by omega)) 5).trans c5
      have hn5 := hrel.next st coh hx b1 hpost ((b3.trans (b4.mono b3.size)).trans (s.h.mono (by omega)))
      generalize s.w = W5 at c5' hn5 ⊢
      clear q0 q1 q2 q3 q8 ql e47 HT QM hne c5 m4 hn4 hnx
      by_cases hk0 : k = 0
      · have hd : decide ((k : Int) = 0) = true := by simp [hk0]
        have hd2 : ((k : Int) == 0) = true := by simp [hk0]
        have hd3 : decide (k = 0) = true := by simp [hk0]
        have hd4 : (k : Int) = 0 := by simp [hk0]
        rw [hd] at c5'
        go_wp2
        go_roundg k
        case measure => omega
        case rel => exact hn5
      · have hd : decide ((k : Int) = 0) = false := by simp [hk0]
        have hd2 : ((k : Int) == 0) = false := by simp [hk0]
        have hd3 : decide (k = 0) = false := by simp [hk0]
        have hd4 : ¬ (k : Int) = 0 := by simp [hk0]
        rw [hd] at c5'
        go_wp2
        go_roundg k
        case measure => omega
        case rel => exact hn5
end Go.Proofs.Ybulkbpay.un
