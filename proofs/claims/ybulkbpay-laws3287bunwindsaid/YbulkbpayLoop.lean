import Derived.Test.YbulkbpayRound
namespace Go.Proofs.Ybulkbpay.un
open Go.ChangeShapes Go.WideShapes Go.ChangeAt Go.RowKit Go.Shelf
attribute [local go_sem] Oper.semAt_some

def tailN : Nat → Code → Code
  | 0, c => c
  | n + 1, .seq _ b => tailN n b
  | _ + 1, c => c
def second : Code → Code
  | .seq _ b => b
  | c => c
def headOf : Code → Code
  | .seq a _ => a
  | c => c

def unwound (sc : Nat → Int) (pre : List It) : Nat → Int := pre.foldl (fun s x => upd s x.1.2.p x.1.2.sh) sc
theorem unwound_snoc (sc : Nat → Int) (pre : List It) (x : It) : unwound sc (pre ++ [x]) = upd (unwound sc pre) x.1.2.p x.1.2.sh := by simp [unwound]

def noDefer (l : List Oper) : Bool := l.all fun o => match o.op with | .defer _ => false | _ => true
theorem noDefer_of {l : List Oper} (h : noDefer l = true) : ∀ (i : Nat) (o : Oper), l.toArray[i]? = some o → ∀ c, o.op ≠ .defer c := by
  intro i o ho c hc
  have hm : o ∈ l := List.mem_of_getElem? (by simpa using ho)
  have := List.all_eq_true.1 h o hm
  rw [hc] at this
  cases this

theorem kept_turned {W w1 : World} {N : Nat} (n : Nat) (hn : n ≤ W.heap.size) (h : W.drew.mapTurned w1 N) : Kept n N W w1 :=
  have hg := h.grown
  ⟨hg.os, hg.tape, hg.output, hg.size, fun k hk hkN => hg.block k (Nat.lt_of_lt_of_le hk hn) (fun e => hkN (by cases e; rfl))⟩
theorem from_turned {W w1 : World} {N n : Nat} (hn : N < n) (h : W.drew.mapTurned w1 N) : KeepsFrom n W w1 :=
  have h2 := KeepsFrom.of_grownBy (W := W.drew) (B := n) h.grown (fun j hj => by cases hj; exact hn)
  ⟨h2.size, h2.same⟩

set_option maxRecDepth 100000 in
set_option maxHeartbeats 4000000 in
theorem close_loop (w : World) (N B0 Bs len cap : Nat) (ao : Option Addr) (fs : Nat → BE) (hf : ∀ j, (fs j).p < 3 ∧ -1 ≤ (fs j).sh ∧ (fs j).sh < 5000) (sc : Nat → Int) (hlen : len ≤ 5000)
    (hN : N + 3 ≤ w.heap.size) (hB0 : N + 3 ≤ B0 ∧ B0 < w.heap.size) (hBs : N + 3 ≤ Bs ∧ Bs < w.heap.size) (b0 : w.cell? ⟨B0, 0, none⟩ = some (.pointer (some ⟨N + 2, 0, none⟩))) (c8 : w.cell? ⟨N + 2, 8, none⟩ = some (.map (some N)))
    (bs : w.cell? ⟨Bs, 0, none⟩ = some (.slice ao len cap)) (hrow : BRow w.heap.size N w ao len fs) (hm : Mp w N sc) (K : Act → World → Prop) (Q' : Exit → Act → World → Prop) (v0 v1 v3 v4 v5 v6 v7 v8 v9 v10 v11 v12 v13 v14 v15 v16 v17 v18 v19 v20 v21 v22 v23 v24 v25 v26 v27 v28 v29 v30 v31 v32 v33 v34 v35 v36 v37 v38 v39 v40 v42 v43 v44 v45 v46 v47 v48 v49 v50 v51 v52 v53 v54 v55 v56 v57 v58 v59 v60 v61 v62 v63 v64 v65 v66 v67 v68 v69 v70 v71 v72 v73 v74 v75 v76 v77 v78 v79 v80 v81 v82 v83 : Value)
    (hK : ∀ D W, w.heap.size ≤ D → Kept w.heap.size N w W → Mp W N (unwound sc (upto (fun k => item fs hf (len - 1 - k)) len)) → W.heap[D]? = some (.deferred (some [])) → K { tmps := List.toArray (v0 :: v1 :: .pointer (some ⟨B0, 0, none⟩) :: v3 :: v4 :: v5 :: v6 :: v7 :: v8 :: v9 :: v10 :: v11 :: v12 :: v13 :: v14 :: v15 :: v16 :: v17 :: v18 :: v19 :: v20 :: v21 :: v22 :: v23 :: v24 :: v25 :: v26 :: v27 :: v28 :: v29 :: v30 :: v31 :: v32 :: v33 :: v34 :: v35 :: v36 :: v37 :: v38 :: v39 :: v40 :: .func (.func 11) #[] #[.pointer (some ⟨Bs, 0, none⟩)] :: v42 :: v43 :: v44 :: v45 :: v46 :: v47 :: v48 :: v49 :: v50 :: v51 :: v52 :: v53 :: v54 :: v55 :: v56 :: v57 :: v58 :: v59 :: v60 :: v61 :: v62 :: v63 :: v64 :: v65 :: v66 :: v67 :: v68 :: v69 :: v70 :: v71 :: v72 :: v73 :: v74 :: v75 :: v76 :: v77 :: v78 :: v79 :: v80 :: v81 :: v82 :: v83 :: []), defers := [{ target := .collected D, args := #[] }] } W) :
    Code.wp Yba.prog (second (headOf (tailN 3 (Yba.f8.body.getD .skip)))) (Exit.then K Q') { tmps := List.toArray (v0 :: v1 :: .pointer (some ⟨B0, 0, none⟩) :: v3 :: v4 :: v5 :: v6 :: v7 :: v8 :: v9 :: v10 :: v11 :: v12 :: v13 :: v14 :: v15 :: v16 :: v17 :: v18 :: v19 :: v20 :: v21 :: v22 :: v23 :: v24 :: v25 :: v26 :: v27 :: v28 :: v29 :: v30 :: v31 :: v32 :: v33 :: v34 :: v35 :: v36 :: v37 :: v38 :: v39 :: v40 :: .func (.func 11) #[] #[.pointer (some ⟨Bs, 0, none⟩)] :: v42 :: v43 :: v44 :: v45 :: v46 :: v47 :: v48 :: v49 :: v50 :: v51 :: v52 :: v53 :: v54 :: v55 :: v56 :: v57 :: v58 :: v59 :: v60 :: v61 :: v62 :: v63 :: v64 :: v65 :: v66 :: v67 :: v68 :: v69 :: v70 :: v71 :: v72 :: v73 :: v74 :: v75 :: v76 :: v77 :: v78 :: v79 :: v80 :: v81 :: v82 :: v83 :: []), defers := [] } w := by
  conv => arg 2; whnf
  go_wp2
  refine (wpIn_wide (n := 3)).1 ?_
  refine wpIn_rangeFunc_ownH (n := 3) rfl (by decide) (gf := 11) (lb := #[.pointer (some ⟨Bs, 0, none⟩)]) rfl trivial (enters_of Yba.func11 (by kernel_rfl) rfl)
    (back_stops 2 (by decide) Bs w.heap.size N len cap ao fs hf hlen hBs.2 (by omega) w (Nat.le_refl _) bs hrow) Kept.trans (kept_b (Nat.le_refl _)) (Below.refl _ _) (fun _ => rfl)
    (fun pre W => Mp W N (unwound sc pre) ∧ Kept w.heap.size N w W) (fun _ _ _ => False) ?own (fun _ _ _ _ _ hs _ _ => hs) ⟨hm, Kept.refl _ _ _⟩
    (fun x a' W => ∃ Bx, w.heap.size ≤ Bx ∧ W.heap[Bx]? = some (.cells #[.string (pf x.1.2.p), .string x.1.2.sp, .int .i64 x.1.2.sh] 54 (0, 0)) ∧ a' = { tmps := List.toArray (v0 :: v1 :: .pointer (some ⟨B0, 0, none⟩) :: v3 :: v4 :: v5 :: v6 :: .pointer (some ⟨Bx, 0, none⟩) :: v8 :: v9 :: v10 :: v11 :: v12 :: v13 :: v14 :: v15 :: v16 :: v17 :: v18 :: v19 :: v20 :: v21 :: v22 :: v23 :: v24 :: v25 :: v26 :: v27 :: v28 :: v29 :: v30 :: v31 :: v32 :: v33 :: v34 :: v35 :: v36 :: v37 :: v38 :: v39 :: v40 :: .func (.func 11) #[] #[.pointer (some ⟨Bs, 0, none⟩)] :: .int .i64 x.1.1 :: .agg #[.string (pf x.1.2.p), .string x.1.2.sp, .int .i64 x.1.2.sh] :: v44 :: v45 :: v46 :: v47 :: v48 :: v49 :: v50 :: v51 :: v52 :: v53 :: v54 :: v55 :: v56 :: v57 :: v58 :: v59 :: v60 :: v61 :: v62 :: v63 :: v64 :: v65 :: v66 :: v67 :: v68 :: v69 :: v70 :: v71 :: v72 :: v73 :: v74 :: v75 :: v76 :: v77 :: v78 :: v79 :: v80 :: v81 :: v82 :: v83 :: []), defers := [] })
    ?ownx ?assign ?body ?done ?stop
  case own =>
    rintro pre A A' row ⟨h1, h2⟩ hg hr
    have hb : ∀ k, k < w.heap.size → A'.heap[k]? = A.heap[k]? := fun k hk => hg.block k (Nat.lt_of_lt_of_le hk h2.size) (fun e => by have := (hr k e.symm).1; omega)
    exact ⟨h1.block (hb N (by omega)), h2.trans ⟨hg.os, hg.tape, hg.output, hg.size, fun k hk _ => hb k hk⟩⟩
  case ownx =>
    rintro x a' _ A A' row ⟨Bx, h1, h2, h3⟩ hg hr
    refine ⟨Bx, h1, ?_, h3⟩
    rw [hg.block Bx (Array.getElem?_eq_some_iff.1 h2).1 (fun e => by obtain ⟨_, o, ho, hc⟩ := hr Bx e.symm; rw [h2] at ho; cases ho; cases hc)]
    exact h2
  case assign =>
    rintro l pre x W Kx ⟨h1, h2⟩ hKx
    simp only [encs]
    gi_wp2
    have hB := (Below.refl w.heap.size W).alloc h2.size (.cells #[.string (pf x.1.2.p), .string x.1.2.sp, .int .i64 x.1.2.sh] 54)
    exact hKx _ _ ((KeepsOthers.alloc _ _).from _) (kept_of_below hB) ⟨h1.block (hB.block N (by omega)), h2.trans (kept_of_below hB)⟩ ⟨W.heap.size, h2.size, World.alloc_heap_new W _, rfl⟩
  case body =>
    rintro l pre x a' W hl _ ⟨h1, h2⟩ ⟨Bx, hBx, bX, rfl⟩ hlt
    have x0 : W.cell? ⟨Bx, 0, none⟩ = some (.string (pf x.1.2.p)) := by simp [World.cell?, bX]
    have x2 : W.cell? ⟨Bx, 2, none⟩ = some (.int .i64 x.1.2.sh) := by simp [World.cell?, bX]
    have r0 : W.cell? ⟨B0, 0, none⟩ = some (.pointer (some ⟨N + 2, 0, none⟩)) := (h2.cell (p := ⟨B0, 0, none⟩) hB0.2 (by show B0 ≠ N; omega)).trans b0
    have r8 : W.cell? ⟨N + 2, 8, none⟩ = some (.map (some N)) := (h2.cell (p := ⟨N + 2, 8, none⟩) (by show N + 2 < _; omega) (by show N + 2 ≠ N; omega)).trans c8
    have hx := x.2
    by_cases hs : x.1.2.sh < 0
    · have hsd : decide (x.1.2.sh < 0) = true := by simp [hs]
      obtain ⟨w1, hrun, hm1, ht1⟩ := (h1.block (w' := W.drew) rfl).drop hx.1 0
      clear bX
      gi_wp2
      refine round_still_tail 6 (by kernel_rfl) ?hno ?hd (by kernel_rfl) ?walk
      case hno => rintro ⟨_, _, h⟩; exact h
      case hd => exact noDefer_of (by kernel_rfl)
      case walk =>
        simp only [List.take_succ_cons, List.take_zero, List.drop_succ_cons, List.drop_zero]
        repeat still_step
        try refine wpStill_nil ?_
        go_wp2
        refine ⟨from_turned (by omega) ht1, kept_turned _ h2.size ht1, ?_, h2.trans (kept_turned _ h2.size ht1)⟩
        rw [unwound_snoc, show x.1.2.sh = -1 by omega]
        exact hm1
    · have hsd : decide (x.1.2.sh < 0) = false := by simp; omega
      obtain ⟨w1, hrun, hm1, ht1⟩ := (h1.block (w' := W.drew) rfl).store hx.1 (z := x.1.2.sh) (WalkArith.wf_i64 (by omega)) (by omega)
      clear bX
      gi_wp2
      refine round_still_tail 8 (by kernel_rfl) ?hno ?hd (by kernel_rfl) ?walk
      case hno => rintro ⟨_, _, h⟩; exact h
      case hd => exact noDefer_of (by kernel_rfl)
      case walk =>
        simp only [List.take_succ_cons, List.take_zero, List.drop_succ_cons, List.drop_zero]
        repeat still_step
        try refine wpStill_nil ?_
        go_wp2
        refine ⟨from_turned (by omega) ht1, kept_turned _ h2.size ht1, ?_, h2.trans (kept_turned _ h2.size ht1)⟩
        rw [unwound_snoc]
        exact hm1
  case done =>
    rintro D ys W hD rfl ⟨h1, h2⟩ hD2
    exact hK D W hD h2 h1 hD2
  case stop =>
    rintro D c pre W _ _ h _
    exact h.elim
end Go.Proofs.Ybulkbpay.un
