import Derived.Test.YbulkbpayLoop
import Derived.Laws.Rows
namespace Go.Proofs.Ybulkbpay.un
open Go.ChangeShapes Go.WideShapes Go.ChangeAt Go.RowKit Go.Shelf

theorem at_world {c : Code} {P : Program} {Q : Exit → Act → World → Prop} {a : Act} {w : World} (h : ∀ W0, W0 = w → c.wp P Q a W0) : c.wp P Q a w := h w rfl

theorem seq_cut {P : Program} {c d : Code} {Q : Exit → Act → World → Prop} {a : Act} {w : World} (h : ∀ K, (∀ a w, d.wp P Q a w → K a w) → c.wp P (Exit.then K Q) a w) : (c.seq d).wp P Q a w := wp_seq (h _ (fun _ _ h => h))

theorem size45 : (Yba.prog.info? 45).map (·.size) = some 6 := by kernel_rfl

theorem sc_os (w : World) (a : Addr) (v : Value) : (w.setCell a v).os = w.os := rfl
theorem sc_tape (w : World) (a : Addr) (v : Value) : (w.setCell a v).tape = w.tape := rfl
theorem sc_output (w : World) (a : Addr) (v : Value) : (w.setCell a v).output = w.output := rfl

theorem body_ret {F : Fence} {n : Nat} {P : Program} {fn : Func} {R : Ending → World → Prop} {tmps : Array Value} {D : Nat} {w : World} {v : Value} (hD : w.heap[D]? = some (.deferred (some [])))
    (hr : (results fn tmps).run P (w.putObj D (.deferred none)) = .ok v (w.putObj D (.deferred none))) (hR : R (.returned v) (w.putObj D (.deferred none))) :
    bodyPostM F n P fn R .ret { tmps := tmps, defers := [{ target := .collected D, args := #[] }] } w :=
  ⟨by simp, .inl ⟨D, _, rfl, run_takeDeferred hD, v, hr, hR⟩⟩

set_option maxRecDepth 100000 in
set_option maxHeartbeats 400000 in
theorem close_end3 (W : World) (Rb T D : Nat) (l : ByteArray) (off : Int) (t1 : W.cell? ⟨T, 1, none⟩ = some (.string ⟨#[110]⟩)) (t2 : W.cell? ⟨T, 2, none⟩ = some (.string l))
    (hR : W.heap[Rb]? = some (.cells #[.int .i64 0, .string ⟨#[]⟩, .string ⟨#[]⟩, .slice none 0 0, .slice none 0 0, .int .i64 0] 45 (0, 0))) (hD : W.heap[D]? = some (.deferred (some [])))
    (R : Ending → World → Prop)
    (hQ : ∀ W', W'.os = W.os → W'.tape = W.tape → W'.output = W.output → W'.heap.size = W.heap.size → (∀ j, j ≠ Rb → j ≠ D → W'.heap[j]? = W.heap[j]?) →
      R (.returned (.agg #[.int .i64 2, .string ⟨#[110]⟩, .string l, .slice none 0 0, .slice none 0 0, .int .i64 off])) W')
    (v0 v3 v6 v7 v8 v9 v10 v11 v12 v13 v14 v15 v16 v17 v18 v19 v20 v21 v22 v23 v24 v25 v26 v27 v28 v29 v30 v31 v32 v33 v34 v35 v36 v37 v38 v39 v40 v41 v42 v43 v44 v45 v46 v47 v48 v49 v50 v51 v52 v53 v54 v55 v56 v57 v58 v59 v60 v61 v62 v63 v64 v65 v66 v67 v68 v69 v70 v71 v72 v73 v74 v75 v76 v77 v78 v79 v80 v81 v82 v83 v2 : Value) :
    Code.wp Yba.prog (tailN 6 (Yba.f8.body.getD .skip)) (bodyPostM Fence.wide 3 Yba.prog Yba.f8 R) { tmps := List.toArray (v0 :: .int .i64 off :: v2 :: v3 :: .pointer (some ⟨Rb, 0, none⟩) :: .pointer (some ⟨T, 0, none⟩) :: v6 :: v7 :: v8 :: v9 :: v10 :: v11 :: v12 :: v13 :: v14 :: v15 :: v16 :: v17 :: v18 :: v19 :: v20 :: v21 :: v22 :: v23 :: v24 :: v25 :: v26 :: v27 :: v28 :: v29 :: v30 :: v31 :: v32 :: v33 :: v34 :: v35 :: v36 :: v37 :: v38 :: v39 :: v40 :: v41 :: v42 :: v43 :: v44 :: v45 :: v46 :: v47 :: v48 :: v49 :: v50 :: v51 :: v52 :: v53 :: v54 :: v55 :: v56 :: v57 :: v58 :: v59 :: v60 :: v61 :: v62 :: v63 :: v64 :: v65 :: v66 :: v67 :: v68 :: v69 :: v70 :: v71 :: v72 :: v73 :: v74 :: v75 :: v76 :: v77 :: v78 :: v79 :: v80 :: v81 :: v82 :: v83 :: []), defers := [{ target := .collected D, args := #[] }] } W := by
  conv => arg 2; whnf
  have r0 : W.cell? ⟨Rb, 0, none⟩ = some (.int .i64 0) := by simp [World.cell?, hR]
  have r1 : W.cell? ⟨Rb, 1, none⟩ = some (.string ⟨#[]⟩) := by simp [World.cell?, hR]
  have r2 : W.cell? ⟨Rb, 2, none⟩ = some (.string ⟨#[]⟩) := by simp [World.cell?, hR]
  have r3 : W.cell? ⟨Rb, 3, none⟩ = some (.slice none 0 0) := by simp [World.cell?, hR]
  have r4 : W.cell? ⟨Rb, 4, none⟩ = some (.slice none 0 0) := by simp [World.cell?, hR]
  have r5 : W.cell? ⟨Rb, 5, none⟩ = some (.int .i64 0) := by simp [World.cell?, hR]
  have rf : ∀ o, W.frozen? ⟨Rb, o, none⟩ = false := fun o => by simp [World.frozen?, hR]
  have f0 := rf 0
  have f1 := rf 1
  have f2 := rf 2
  have f3 := rf 3
  have f4 := rf 4
  have f5 := rf 5
  have HR : Hid _ := hR
  have HD : Hid _ := hD
  clear hR hD rf
  go_wp2
  have hDR : D ≠ Rb := fun e => by have h1 := HD.out; have h2 := HR.out; rw [e, h2] at h1; cases h1
  have hX : ∀ j, j ≠ Rb → ((((((W.setCell ⟨Rb, 0, none⟩ (.int .i64 2)).setCell ⟨Rb, 1, none⟩ (.string ⟨#[110]⟩)).setCell ⟨Rb, 2, none⟩ (.string l)).setCell ⟨Rb, 3, none⟩ (.slice none 0 0)).setCell ⟨Rb, 4, none⟩ (.slice none 0 0)).setCell ⟨Rb, 5, none⟩ (.int .i64 off)).heap[j]? = W.heap[j]? := fun j hj => by
    rw [Below.heap_setCell _ _ _ _ hj, Below.heap_setCell _ _ _ _ hj, Below.heap_setCell _ _ _ _ hj, Below.heap_setCell _ _ _ _ hj, Below.heap_setCell _ _ _ _ hj, Below.heap_setCell _ _ _ _ hj]
  have hXs : ((((((W.setCell ⟨Rb, 0, none⟩ (.int .i64 2)).setCell ⟨Rb, 1, none⟩ (.string ⟨#[110]⟩)).setCell ⟨Rb, 2, none⟩ (.string l)).setCell ⟨Rb, 3, none⟩ (.slice none 0 0)).setCell ⟨Rb, 4, none⟩ (.slice none 0 0)).setCell ⟨Rb, 5, none⟩ (.int .i64 off)).heap.size = W.heap.size := by
    simp only [World.size_setCell]
  have hXr : ((((((W.setCell ⟨Rb, 0, none⟩ (.int .i64 2)).setCell ⟨Rb, 1, none⟩ (.string ⟨#[110]⟩)).setCell ⟨Rb, 2, none⟩ (.string l)).setCell ⟨Rb, 3, none⟩ (.slice none 0 0)).setCell ⟨Rb, 4, none⟩ (.slice none 0 0)).setCell ⟨Rb, 5, none⟩ (.int .i64 off)).heap[Rb]? = some (.cells #[.int .i64 2, .string ⟨#[110]⟩, .string l, .slice none 0 0, .slice none 0 0, .int .i64 off] 45 (0, 0)) :=
    heap_setCell_same _ _ _ _ _ _ (heap_setCell_same _ _ _ _ _ _ (heap_setCell_same _ _ _ _ _ _ (heap_setCell_same _ _ _ _ _ _ (heap_setCell_same _ _ _ _ _ _ (heap_setCell_same _ _ _ _ _ _ HR.out)))))
  have hXo : ((((((W.setCell ⟨Rb, 0, none⟩ (.int .i64 2)).setCell ⟨Rb, 1, none⟩ (.string ⟨#[110]⟩)).setCell ⟨Rb, 2, none⟩ (.string l)).setCell ⟨Rb, 3, none⟩ (.slice none 0 0)).setCell ⟨Rb, 4, none⟩ (.slice none 0 0)).setCell ⟨Rb, 5, none⟩ (.int .i64 off)).os = W.os ∧ ((((((W.setCell ⟨Rb, 0, none⟩ (.int .i64 2)).setCell ⟨Rb, 1, none⟩ (.string ⟨#[110]⟩)).setCell ⟨Rb, 2, none⟩ (.string l)).setCell ⟨Rb, 3, none⟩ (.slice none 0 0)).setCell ⟨Rb, 4, none⟩ (.slice none 0 0)).setCell ⟨Rb, 5, none⟩ (.int .i64 off)).tape = W.tape ∧ ((((((W.setCell ⟨Rb, 0, none⟩ (.int .i64 2)).setCell ⟨Rb, 1, none⟩ (.string ⟨#[110]⟩)).setCell ⟨Rb, 2, none⟩ (.string l)).setCell ⟨Rb, 3, none⟩ (.slice none 0 0)).setCell ⟨Rb, 4, none⟩ (.slice none 0 0)).setCell ⟨Rb, 5, none⟩ (.int .i64 off)).output = W.output := by simp only [sc_os, sc_tape, sc_output, and_self]
  generalize ((((((W.setCell ⟨Rb, 0, none⟩ (.int .i64 2)).setCell ⟨Rb, 1, none⟩ (.string ⟨#[110]⟩)).setCell ⟨Rb, 2, none⟩ (.string l)).setCell ⟨Rb, 3, none⟩ (.slice none 0 0)).setCell ⟨Rb, 4, none⟩ (.slice none 0 0)).setCell ⟨Rb, 5, none⟩ (.int .i64 off)) = X at *
  exact body_ret ((hX D hDR).trans HD.out) (results_cell_row Yba.results8 _ _ Rb 45 _ (0, 0) _ rfl ((World.putObj_heap_other (fun e => hDR e.symm)).trans hXr) Yba.underlying45 rfl size45)
    (hQ _ hXo.1 hXo.2.1 hXo.2.2 (by rw [World.putObj_size]; exact hXs) (fun j h1 h2 => (World.putObj_heap_other h2).trans (hX j h1)))

set_option maxRecDepth 100000 in
set_option maxHeartbeats 400000 in
theorem close_end2 (W : World) (N B0 Rb T D go co k : Nat) (l : ByteArray) (off : Int) (b : Bool)
    (hRb : N + 3 ≤ Rb) (hT : N + 3 ≤ T) (hD' : N + 3 ≤ D)
    (b0 : W.cell? ⟨B0, 0, none⟩ = some (.pointer (some ⟨N + 2, 0, none⟩))) (t1 : W.cell? ⟨T, 1, none⟩ = some (.string ⟨#[110]⟩)) (t2 : W.cell? ⟨T, 2, none⟩ = some (.string l))
    (c5 : W.cell? ⟨N + 2, 5, none⟩ = some (.bool b)) (c6 : W.cell? ⟨N + 2, 6, none⟩ = some (.slice (some ⟨go, 0, none⟩) k co)) (f5 : W.frozen? ⟨N + 2, 5, none⟩ = false)
    (hR : W.heap[Rb]? = some (.cells #[.int .i64 0, .string ⟨#[]⟩, .string ⟨#[]⟩, .slice none 0 0, .slice none 0 0, .int .i64 0] 45 (0, 0))) (hD : W.heap[D]? = some (.deferred (some [])))
    (R : Ending → World → Prop)
    (hQ : ∀ W', W'.os = W.os → W'.tape = W.tape → W'.output = W.output → W'.heap.size = W.heap.size → (∀ j, j ≠ N + 2 → j ≠ Rb → j ≠ D → W'.heap[j]? = W.heap[j]?) → (∀ o, o ≠ 5 → W'.cell? ⟨N + 2, o, none⟩ = W.cell? ⟨N + 2, o, none⟩) → W'.cell? ⟨N + 2, 5, none⟩ = some (.bool (decide ((k : Int) = 0))) → (∀ o, W'.frozen? ⟨N + 2, o, none⟩ = W.frozen? ⟨N + 2, o, none⟩) →
      R (.returned (.agg #[.int .i64 2, .string ⟨#[110]⟩, .string l, .slice none 0 0, .slice none 0 0, .int .i64 off])) W')
    (v0 v3 v6 v7 v8 v9 v10 v11 v12 v13 v14 v15 v16 v17 v18 v19 v20 v21 v22 v23 v24 v25 v26 v27 v28 v29 v30 v31 v32 v33 v34 v35 v36 v37 v38 v39 v40 v41 v42 v43 v44 v45 v46 v47 v48 v49 v50 v51 v52 v53 v54 v55 v56 v57 v58 v59 v60 v61 v62 v63 v64 v65 v66 v67 v68 v69 v70 v71 v72 v73 v74 v75 v76 v77 v78 v79 v80 v81 v82 v83 : Value) :
    Code.wp Yba.prog (tailN 5 (Yba.f8.body.getD .skip)) (bodyPostM Fence.wide 3 Yba.prog Yba.f8 R) { tmps := List.toArray (v0 :: .int .i64 off :: .pointer (some ⟨B0, 0, none⟩) :: v3 :: .pointer (some ⟨Rb, 0, none⟩) :: .pointer (some ⟨T, 0, none⟩) :: v6 :: v7 :: v8 :: v9 :: v10 :: v11 :: v12 :: v13 :: v14 :: v15 :: v16 :: v17 :: v18 :: v19 :: v20 :: v21 :: v22 :: v23 :: v24 :: v25 :: v26 :: v27 :: v28 :: v29 :: v30 :: v31 :: v32 :: v33 :: v34 :: v35 :: v36 :: v37 :: v38 :: v39 :: v40 :: v41 :: v42 :: v43 :: v44 :: v45 :: v46 :: v47 :: v48 :: v49 :: v50 :: v51 :: v52 :: v53 :: v54 :: v55 :: v56 :: v57 :: v58 :: v59 :: v60 :: v61 :: v62 :: v63 :: v64 :: v65 :: v66 :: v67 :: v68 :: v69 :: v70 :: v71 :: v72 :: v73 :: v74 :: v75 :: v76 :: v77 :: v78 :: v79 :: v80 :: v81 :: v82 :: v83 :: []), defers := [{ target := .collected D, args := #[] }] } W := by
  conv => arg 2; whnf
  have HR : Hid _ := hR
  have HD : Hid _ := hD
  clear hR hD
  refine seq_cut fun K hK => ?_
  have HK : Hid _ := hK
  clear hK
  go_still_tail 7, (by kernel_rfl)
  go_wp2
  refine HK.out _ _ (at_world fun W2 hW2 => ?_)
  have hne : ∀ j, j ≠ N + 2 → W2.heap[j]? = W.heap[j]? := fun j hj => by rw [hW2]; exact Below.heap_setCell _ _ _ _ hj
  have hcell : ∀ (a : Addr), a.block ≠ N + 2 → W2.cell? a = W.cell? a := fun a ha => by simp only [World.cell?, hne a.block ha]
  have e5 : W2.cell? ⟨N + 2, 5, none⟩ = some (.bool (decide ((k : Int) = 0))) := by rw [hW2]; exact World.cell?_setCell_same _ _ _ c5
  have eo : ∀ o, o ≠ 5 → W2.cell? ⟨N + 2, o, none⟩ = W.cell? ⟨N + 2, o, none⟩ := fun o ho => by rw [hW2]; exact World.cell?_setCell_other _ _ _ _ (fun e => ho (by cases e; rfl))
  have ef : ∀ o, W2.frozen? ⟨N + 2, o, none⟩ = W.frozen? ⟨N + 2, o, none⟩ := fun o => by rw [hW2]; simp only [World.frozen?_drew, World.frozen?_setCell]
  have es : W2.heap.size = W.heap.size := by rw [hW2]; simp
  have eos : W2.os = W.os ∧ W2.tape = W.tape ∧ W2.output = W.output := by rw [hW2]; exact ⟨rfl, rfl, rfl⟩
  clear hW2
  refine close_end3 W2 Rb T D l off ((hcell _ (by show T ≠ _; omega)).trans t1) ((hcell _ (by show T ≠ _; omega)).trans t2) ((hne _ (by omega)).trans HR.out) ((hne _ (by omega)).trans HD.out) R ?_ _ _ _ _ _ _ _ _ _ _ _ _ _ _ _ _ _ _ _ _ _ _ _ _ _ _ _ _ _ _ _ _ _ _ _ _ _ _ _ _ _ _ _ _ _ _ _ _ _ _ _ _ _ _ _ _ _ _ _ _ _ _ _ _ _ _ _ _ _ _ _ _ _ _ _ _ _ _ _ _ _
  intro W' h1 h2 h3 h4 h5
  have h5' : W'.heap[N + 2]? = W2.heap[N + 2]? := h5 _ (by omega) (by omega)
  refine hQ W' (h1.trans eos.1) (h2.trans eos.2.1) (h3.trans eos.2.2) (h4.trans es) (fun j j1 j2 j3 => (h5 j j2 j3).trans (hne j j1)) (fun o ho => ?_) ?_ (fun o => ?_)
  · rw [← eo o ho]; simp only [World.cell?, h5']
  · rw [← e5]; simp only [World.cell?, h5']
  · rw [← ef o]; simp only [World.frozen?, h5']

set_option maxRecDepth 100000 in
set_option maxHeartbeats 400000 in
theorem close_end (W : World) (N B0 Rb T D go co k nb cb mark : Nat) (ab : Option Addr) (l : ByteArray) (off : Int) (b : Bool) (hab : (ab = none ∧ nb = 0 ∧ cb = 0) ∨ ∃ g, ab = some ⟨g, 0, none⟩) (hm : mark ≤ nb ∧ nb ≤ cb ∧ cb ≤ maxLen ∧ nb ≤ 2000)
    (hB0 : N + 3 ≤ B0) (hRb : N + 3 ≤ Rb) (hT : N + 3 ≤ T) (hD' : N + 3 ≤ D)
    (b0 : W.cell? ⟨B0, 0, none⟩ = some (.pointer (some ⟨N + 2, 0, none⟩))) (t1 : W.cell? ⟨T, 1, none⟩ = some (.string ⟨#[110]⟩)) (t2 : W.cell? ⟨T, 2, none⟩ = some (.string l)) (t3 : W.cell? ⟨T, 3, none⟩ = some (.int .i64 (mark : Int)))
    (c5 : W.cell? ⟨N + 2, 5, none⟩ = some (.bool b)) (c6 : W.cell? ⟨N + 2, 6, none⟩ = some (.slice (some ⟨go, 0, none⟩) k co)) (c7 : W.cell? ⟨N + 2, 7, none⟩ = some (.slice ab nb cb)) (fr : ∀ o, W.frozen? ⟨N + 2, o, none⟩ = false)
    (hR : W.heap[Rb]? = some (.cells #[.int .i64 0, .string ⟨#[]⟩, .string ⟨#[]⟩, .slice none 0 0, .slice none 0 0, .int .i64 0] 45 (0, 0))) (hD : W.heap[D]? = some (.deferred (some [])))
    (R : Ending → World → Prop)
    (hQ : ∀ W', W'.os = W.os → W'.tape = W.tape → W'.output = W.output → W'.heap.size = W.heap.size → (∀ j, j ≠ N + 2 → j ≠ Rb → j ≠ D → W'.heap[j]? = W.heap[j]?) → (∀ o, o ≠ 5 → o ≠ 7 → W'.cell? ⟨N + 2, o, none⟩ = W.cell? ⟨N + 2, o, none⟩) → W'.cell? ⟨N + 2, 5, none⟩ = some (.bool (decide ((k : Int) = 0))) → W'.cell? ⟨N + 2, 7, none⟩ = some (.slice ab mark cb) → (∀ o, W'.frozen? ⟨N + 2, o, none⟩ = false) →
      R (.returned (.agg #[.int .i64 2, .string ⟨#[110]⟩, .string l, .slice none 0 0, .slice none 0 0, .int .i64 off])) W')
    (v0 v3 v6 v7 v8 v9 v10 v11 v12 v13 v14 v15 v16 v17 v18 v19 v20 v21 v22 v23 v24 v25 v26 v27 v28 v29 v30 v31 v32 v33 v34 v35 v36 v37 v38 v39 v40 v41 v42 v43 v44 v45 v46 v47 v48 v49 v50 v51 v52 v53 v54 v55 v56 v57 v58 v59 v60 v61 v62 v63 v64 v65 v66 v67 v68 v69 v70 v71 v72 v73 v74 v75 v76 v77 v78 v79 v80 v81 v82 v83 : Value) :
    Code.wp Yba.prog (tailN 4 (Yba.f8.body.getD .skip)) (bodyPostM Fence.wide 3 Yba.prog Yba.f8 R) { tmps := List.toArray (v0 :: .int .i64 off :: .pointer (some ⟨B0, 0, none⟩) :: v3 :: .pointer (some ⟨Rb, 0, none⟩) :: .pointer (some ⟨T, 0, none⟩) :: v6 :: v7 :: v8 :: v9 :: v10 :: v11 :: v12 :: v13 :: v14 :: v15 :: v16 :: v17 :: v18 :: v19 :: v20 :: v21 :: v22 :: v23 :: v24 :: v25 :: v26 :: v27 :: v28 :: v29 :: v30 :: v31 :: v32 :: v33 :: v34 :: v35 :: v36 :: v37 :: v38 :: v39 :: v40 :: v41 :: v42 :: v43 :: v44 :: v45 :: v46 :: v47 :: v48 :: v49 :: v50 :: v51 :: v52 :: v53 :: v54 :: v55 :: v56 :: v57 :: v58 :: v59 :: v60 :: v61 :: v62 :: v63 :: v64 :: v65 :: v66 :: v67 :: v68 :: v69 :: v70 :: v71 :: v72 :: v73 :: v74 :: v75 :: v76 :: v77 :: v78 :: v79 :: v80 :: v81 :: v82 :: v83 :: []), defers := [{ target := .collected D, args := #[] }] } W := by
  conv => arg 2; whnf
  obtain ⟨m1, m2, m3, m4⟩ := hm
  have f7 := fr 7
  have HR : Hid _ := hR
  have HD : Hid _ := hD
  have s1 : (mark : Int) ≤ (cb : Int) := by omega
  have s2 : mark ≤ cb := by omega
  have key : ∀ W2 : World, W2 = (W.drew.setCell ⟨N + 2, 7, none⟩ (.slice ab mark cb)) → ∀ v0 v3 v6 v7 v8 v9 v10 v11 v12 v13 v14 v15 v16 v17 v18 v19 v20 v21 v22 v23 v24 v25 v26 v27 v28 v29 v30 v31 v32 v33 v34 v35 v36 v37 v38 v39 v40 v41 v42 v43 v44 v45 v46 v47 v48 v49 v50 v51 v52 v53 v54 v55 v56 v57 v58 v59 v60 v61 v62 v63 v64 v65 v66 v67 v68 v69 v70 v71 v72 v73 v74 v75 v76 v77 v78 v79 v80 v81 v82 v83 : Value, Code.wp Yba.prog (tailN 5 (Yba.f8.body.getD .skip)) (bodyPostM Fence.wide 3 Yba.prog Yba.f8 R) { tmps := List.toArray (v0 :: .int .i64 off :: .pointer (some ⟨B0, 0, none⟩) :: v3 :: .pointer (some ⟨Rb, 0, none⟩) :: .pointer (some ⟨T, 0, none⟩) :: v6 :: v7 :: v8 :: v9 :: v10 :: v11 :: v12 :: v13 :: v14 :: v15 :: v16 :: v17 :: v18 :: v19 :: v20 :: v21 :: v22 :: v23 :: v24 :: v25 :: v26 :: v27 :: v28 :: v29 :: v30 :: v31 :: v32 :: v33 :: v34 :: v35 :: v36 :: v37 :: v38 :: v39 :: v40 :: v41 :: v42 :: v43 :: v44 :: v45 :: v46 :: v47 :: v48 :: v49 :: v50 :: v51 :: v52 :: v53 :: v54 :: v55 :: v56 :: v57 :: v58 :: v59 :: v60 :: v61 :: v62 :: v63 :: v64 :: v65 :: v66 :: v67 :: v68 :: v69 :: v70 :: v71 :: v72 :: v73 :: v74 :: v75 :: v76 :: v77 :: v78 :: v79 :: v80 :: v81 :: v82 :: v83 :: []), defers := [{ target := .collected D, args := #[] }] } W2 := by
    intro W2 hW2
    have hne : ∀ j, j ≠ N + 2 → W2.heap[j]? = W.heap[j]? := fun j hj => by rw [hW2]; exact Below.heap_setCell _ _ _ _ hj
    have hcell : ∀ (a : Addr), a.block ≠ N + 2 → W2.cell? a = W.cell? a := fun a ha => by simp only [World.cell?, hne a.block ha]
    have e7 : W2.cell? ⟨N + 2, 7, none⟩ = some (.slice ab mark cb) := by rw [hW2]; exact World.cell?_setCell_same _ _ _ c7
    have eo : ∀ o, o ≠ 7 → W2.cell? ⟨N + 2, o, none⟩ = W.cell? ⟨N + 2, o, none⟩ := fun o ho => by rw [hW2]; exact World.cell?_setCell_other _ _ _ _ (fun e => ho (by cases e; rfl))
    have ef : ∀ o, W2.frozen? ⟨N + 2, o, none⟩ = W.frozen? ⟨N + 2, o, none⟩ := fun o => by rw [hW2]; simp only [World.frozen?_drew, World.frozen?_setCell]
    have es : W2.heap.size = W.heap.size := by rw [hW2]; simp
    have eos : W2.os = W.os ∧ W2.tape = W.tape ∧ W2.output = W.output := by rw [hW2]; exact ⟨rfl, rfl, rfl⟩
    clear hW2
    refine close_end2 W2 N B0 Rb T D go co k l off b hRb hT hD' ((hcell _ (by show B0 ≠ _; omega)).trans b0) ((hcell _ (by show T ≠ _; omega)).trans t1) ((hcell _ (by show T ≠ _; omega)).trans t2) ((eo 5 (by decide)).trans c5) ((eo 6 (by decide)).trans c6) ((ef 5).trans (fr 5)) ((hne _ (by omega)).trans HR.out) ((hne _ (by omega)).trans HD.out) R ?_
    intro W' h1 h2 h3 h4 h5 h6 h7 h8
    exact hQ W' (h1.trans eos.1) (h2.trans eos.2.1) (h3.trans eos.2.2) (h4.trans es) (fun j j1 j2 j3 => (h5 j j1 j2 j3).trans (hne j j1)) (fun o o1 o2 => (h6 o o1).trans (eo o o2)) h7 ((h6 7 (by decide)).trans e7) (fun o => (h8 o).trans ((ef o).trans (fr o)))
  have KEY : Hid _ := key
  clear hR hD key hQ
  rcases hab with ⟨h1, h2, h3⟩ | ⟨g, h1⟩
  · subst h1 h2 h3
    have hmk : mark = 0 := by omega
    subst hmk
    refine seq_cut fun K hK => ?_
    have HK : Hid _ := hK
    clear hK
    go_still_tail 8, (by kernel_rfl)
    go_wp2
    refine HK.out _ _ ?_
    exact KEY.out _ rfl _ _ _ _ _ _ _ _ _ _ _ _ _ _ _ _ _ _ _ _ _ _ _ _ _ _ _ _ _ _ _ _ _ _ _ _ _ _ _ _ _ _ _ _ _ _ _ _ _ _ _ _ _ _ _ _ _ _ _ _ _ _ _ _ _ _ _ _ _ _ _ _ _ _ _ _ _ _ _ _
  · subst h1
    refine seq_cut fun K hK => ?_
    have HK : Hid _ := hK
    clear hK
    go_still_tail 8, (by kernel_rfl)
    go_wp2
    refine HK.out _ _ ?_
    exact KEY.out _ rfl _ _ _ _ _ _ _ _ _ _ _ _ _ _ _ _ _ _ _ _ _ _ _ _ _ _ _ _ _ _ _ _ _ _ _ _ _ _ _ _ _ _ _ _ _ _ _ _ _ _ _ _ _ _ _ _ _ _ _ _ _ _ _ _ _ _ _ _ _ _ _ _ _ _ _ _ _ _ _ _
end Go.Proofs.Ybulkbpay.un
