import Derived.Test.YbulkbpayState
import Derived.Deep.RegionLaw
namespace Go.Proofs.Ybulkbpay.un
open Go.ChangeShapes Go.WideShapes Go.ChangeAt Go.RowKit

/-- append, by its run, in a region that draws -/
theorem step_append_run {P : Program} {ops : Array Oper} {o : Oper} {a : Act} {w : World} {K : Act → World → Prop} {Q : Exit → Act → World → Prop} {E : Prop}
    (hg : o.guard = none) (s x : Operand) (t : TypeId) (hop : o.op = Op.call { callee := Callee.builtin Builtin.append, args := #[s, x], argTypes := #[t, t] })
    (vs vx : Value) (hs : a.eval s = vs) (hx : a.eval x = vx) (v' : Value) (w' : World) (hr : (Builtin.append_ #[t, t] o.type #[vs, vx]).run P w = .ok v' w') (hK : K (a.put o.dst v') w') :
    if Region.wanted o (yielded ops a.tmps) = true then Oper.wp P o a w K Q else E := by
  have hw : Region.wanted o (yielded ops a.tmps) = true := by simp [Region.wanted, hg]
  rw [if_pos hw]
  unfold Oper.wp
  simp only [execOp, hop, resolve, invoke, builtin, Sem.run_bind, Sem.run_pure, Result.andThen_ok, List.map_toArray, List.map_cons, List.map_nil, hs, hx, hr]
  exact hK

/-- the snapshots, one longer -/
theorem St.snap {N : Nat} {w w' : World} {ao ab aS : Option Addr} {co cb cs : Nat} {os : List OE} {bs : List BE} {ss : List (Nat → Int)} {sc : Nat → Int} (h : St N w ao ab aS co cb cs os bs ss sc) {g cap : Nat} (x : Nat → Int)
    (hg : w.grownBy w' (Value.slice aS ss.length cs).ownBlock) (hr : w'.ownsRow (N + 3) 49 4 (.slice (some ⟨g, 0, none⟩) (ss.length + 1) cap) (ss.length + 1) (ss.flatMap cellsOf ++ cellsOf x)) :
    St N w' ao ab (some ⟨g, 0, none⟩) co cb cap os bs (ss ++ [x]) sc ∧ Below N w w' := by
  have hsz := h.size
  have hne : ∀ i, i < N + 3 → some i ≠ (Value.slice aS ss.length cs).ownBlock := fun i hi e => by have := (h.rs.lt i e.symm).1; omega
  have hbk : ∀ i, i < N + 3 → w'.heap[i]? = w.heap[i]? := fun i hi => hg.block i (by omega) (hne i hi)
  have hc : ∀ o, w'.cell? ⟨N + 2, o, none⟩ = w.cell? ⟨N + 2, o, none⟩ := fun o => World.cell?_of_block (a := ⟨N + 2, o, none⟩) (hbk (N + 2) (by omega))
  refine ⟨⟨Nat.le_trans hsz hg.size, ?_, ?_, ?_, ?_, fun o => ?_, h.ro.kept hg (apart h.ro h.rs (by decide)), h.rb.kept hg (apart h.rb h.rs (by decide)), ?_, h.mp.block (hbk N (by omega))⟩, ⟨hg.os, hg.tape, hg.output, hg.size, fun k hk => hbk k (by omega)⟩⟩
  · rw [hc]; exact h.c5
  · rw [hc]; exact h.c6
  · rw [hc]; exact h.c7
  · rw [hc]; exact h.c8
  · rw [World.frozen?_of_block (a := ⟨N + 2, o, none⟩) (hbk (N + 2) (by omega))]; exact h.fr o
  · simpa using hr

/-- the open elements, one longer, and stored -/
theorem St.opened {N : Nat} {w w' : World} {ao ab aS : Option Addr} {co cb cs : Nat} {os : List OE} {bs : List BE} {ss : List (Nat → Int)} {sc : Nat → Int} (h : St N w ao ab aS co cb cs os bs ss sc) {g cap : Nat} (x : OE)
    (hg : w.grownBy w' (Value.slice ao os.length co).ownBlock) (hr : w'.ownsRow (N + 3) 42 4 (.slice (some ⟨g, 0, none⟩) (os.length + 1) cap) (os.length + 1) (os.flatMap oc ++ oc x)) :
    w'.cell? ⟨N + 2, 6, none⟩ = some (.slice ao os.length co) ∧ w'.frozen? ⟨N + 2, 6, none⟩ = false ∧
    St N (w'.setCell ⟨N + 2, 6, none⟩ (.slice (some ⟨g, 0, none⟩) (os.length + 1) cap)) (some ⟨g, 0, none⟩) ab aS cap cb cs (os ++ [x]) bs ss sc ∧ Below N w (w'.setCell ⟨N + 2, 6, none⟩ (.slice (some ⟨g, 0, none⟩) (os.length + 1) cap)) := by
  have hsz := h.size
  have hne : ∀ i, i < N + 3 → some i ≠ (Value.slice ao os.length co).ownBlock := fun i hi e => by have := (h.ro.lt i e.symm).1; omega
  have hbk : ∀ i, i < N + 3 → w'.heap[i]? = w.heap[i]? := fun i hi => hg.block i (by omega) (hne i hi)
  have hc : ∀ o, w'.cell? ⟨N + 2, o, none⟩ = w.cell? ⟨N + 2, o, none⟩ := fun o => World.cell?_of_block (a := ⟨N + 2, o, none⟩) (hbk (N + 2) (by omega))
  have hf : ∀ o, w'.frozen? ⟨N + 2, o, none⟩ = false := fun o => by rw [World.frozen?_of_block (a := ⟨N + 2, o, none⟩) (hbk (N + 2) (by omega))]; exact h.fr o
  have ot : ∀ (o : Nat) v, 6 ≠ o → (w'.setCell ⟨N + 2, 6, none⟩ v).cell? ⟨N + 2, o, none⟩ = w'.cell? ⟨N + 2, o, none⟩ := fun o v hne =>
    World.cell?_setCell_other _ _ _ _ (by intro e; cases e; exact hne rfl)
  have hb1 : Below N w w' := ⟨hg.os, hg.tape, hg.output, hg.size, fun k hk => hbk k (by omega)⟩
  have key : ∀ {e size n : Nat} {v : Value} {xs : List Value}, w'.ownsRow (N + 3) e size v n xs → ∀ u, (w'.setCell ⟨N + 2, 6, none⟩ u).ownsRow (N + 3) e size v n xs := fun hh u => ownsRow_setCell_below hh (by show N + 2 < N + 3; omega) u
  refine ⟨(hc 6).trans h.c6, hf 6, ⟨?_, ?_, ?_, ?_, ?_, fun o => ?_, ?_, key (h.rb.kept hg (apart h.rb h.ro (by decide))) _, key (h.rs.kept hg (apart h.rs h.ro (by decide))) _, ?_⟩, hb1.setCell (by show N ≤ N + 2; omega) _⟩
  · rw [World.size_setCell]; exact Nat.le_trans hsz hg.size
  · rw [ot 5 _ (by decide), hc]; exact h.c5
  · rw [World.cell?_setCell_same _ _ _ ((hc 6).trans h.c6)]; simp
  · rw [ot 7 _ (by decide), hc]; exact h.c7
  · rw [ot 8 _ (by decide), hc]; exact h.c8
  · rw [World.frozen?_setCell]; exact hf o
  · simpa using key hr _
  · exact (h.mp.block (hbk N (by omega))).block (Below.heap_setCell _ _ _ _ (by show N ≠ N + 2; omega))

set_option maxHeartbeats 4000000 in
theorem push_any (N : Nat) (w : World) (ao ab aS : Option Addr) (co cb cs : Nat) (os : List OE) (bs : List BE) (ss : List (Nat → Int)) (sc : Nat → Int) (h : St N w ao ab aS co cb cs os bs ss sc) (ho : os.length ≤ 1100) (hs : ss.length ≤ 1100) :
    Calls Yba.prog 5 #[.pointer (some ⟨N + 2, 0, none⟩), .slice aS ss.length cs] w fun e w' => ∃ ao' co' aS' cs' l, e = .returned (.slice aS' (ss.length + 1) cs') ∧ St N w' ao' ab aS' co' cb cs' (os ++ [⟨l, bs.length⟩]) bs (ss ++ [sc]) sc ∧ Below N w w' := by
  have hsz := h.size
  have HT : Calls Yba.prog 9 #[.pointer (some ⟨N + 2, 0, none⟩)] w fun e w' => e = .returned (.agg #[.int .i64 (sc 0), .int .i64 (sc 1), .int .i64 (sc 2), .int .i64 (cnt sc : Nat)]) ∧ Below w.heap.size w w' := take_any w (N + 2) N sc h.c8 h.mp
  go_enter Yba.func5, Yba.ntmps5
  go_upto_region 2 with (first | (go_at_call 9; refine HT.mono ?_; rintro e w1 ⟨rfl, hb1⟩; have st1 := h.below hb1; obtain ⟨g, cap, w2, hrun, hown, hgr⟩ := app1 w1 (N + 3) 25 49 25 _ 4 32 Yba.underlying25 info49 rfl (by decide) (by decide) aS cs ss.length _ st1.rs #[.int .i64 (sc 0), .int .i64 (sc 1), .int .i64 (sc 2), .int .i64 (cnt sc : Nat)] rfl (by simp [Value.oneCell']) (by omega) st1.size) | (at_builtin; refine wpList_append_run rfl (.tmp 6) (.tmp 9) 25 25 rfl _ _ rfl rfl _ _ hrun ?_))
  obtain ⟨st2, hb2⟩ := st1.snap sc hgr hown
  have hb12 : Below N w w2 := (hb1.mono (by omega)).trans hb2
  clear hb1 hb2 hrun hown hgr st1 HT h
  have q6 := st2.c6
  have q7 := st2.c7
  have q8 := st2.fr 6
  have hsz2 := st2.size
  go_upto_region 3 with fail
  generalize Utf8.encode (97 + (os.length : Int) % 26) = l
  obtain ⟨g3, cap3, w3, hrun3, hown3, hgr3⟩ := app1 w2.drew (N + 3) 31 42 31 _ 4 56 Yba.underlying31 info42 rfl (by decide) (by decide) ao co os.length _ st2.draw.ro #[.string l, .string ⟨#[110]⟩, .string l, .int .i64 (bs.length : Int)] rfl (by simp [Value.oneCell']) (by omega) st2.draw.size
  obtain ⟨k1, k2, st3, hb3⟩ := st2.draw.opened ⟨l, bs.length⟩ hgr3 hown3
  have hb13 := hb12.drew.trans hb3
  clear hb3 hb12 hgr3 hown3
  replace hrun3 : (Builtin.append_ #[31, 31] 31 #[.slice ao os.length co, .slice (some ⟨w2.heap.size, 0, none⟩) 1 1]).run Yba.prog (w2.alloc (.cells #[.string l, .string ⟨#[110]⟩, .string l, .int .i64 (bs.length : Int)] 42)).drew = .ok (.slice (some ⟨g3, 0, none⟩) (os.length + 1) cap3) w3 := hrun3
  have n1 : N + 2 < w2.heap.size := by omega
  have n2 : ¬ N + 2 = w2.heap.size := by omega
  have q6' : ∀ o, (w2.alloc o).cell? ⟨N + 2, 6, none⟩ = some (.slice ao os.length co) := fun o => by rw [World.cell?_alloc_past _ _ _ n1]; exact q6
  have q7' : ∀ o, (w2.alloc o).cell? ⟨N + 2, 7, none⟩ = some (.slice ab bs.length cb) := fun o => by rw [World.cell?_alloc_past _ _ _ n1]; exact q7
  have H3 : Hid _ := hrun3
  clear hrun3
  go_region_law (refine step_append_run rfl (.tmp 24) (.tmp 34) 31 rfl _ _ rfl rfl _ _ H3.out ?_)
  all_goals go_wp2
  all_goals go_ret
  all_goals exact ⟨_, _, _, _, l, rfl, st3, hb13⟩
end Go.Proofs.Ybulkbpay.un
