import Derived.Test.YbulkboyuVisit
namespace Go.Proofs.Ybulkboyu.scc
open Go.ChangeShapes Go.WideShapes Go.ChangeAt Go.RowKit Go.Shelf

theorem visit_any (H n gn : Nat) (nd : Nat → Nat) (eb : Nat → Option Addr) (el : Nat → Nat) (tg : Nat → Nat → Int) (b : World) (hL : Lay H n gn nd eb el tg b) : ∀ m, VSpec H n nd el tg b m
  | 0 => fun s _ i _ _ _ _ _ _ hm hi hw _ _ _ _ => by have := wpos hi hw; omega
  | m + 1 => visit_step H n gn nd eb el tg b hL m (visit_any H n gn nd eb el tg b hL m)

theorem info4 : (Yba.prog.info? 4).map (fun i => (i.zero, i.size, i.bytes)) = some (some (.bool false), 1, 1) := by kernel_rfl
def rep (z : Value) (n : Nat) : Array Value := madeCells z.cells n
theorem rep_at {z : Value} (hz : z.cells = #[z]) (n j : Nat) (h : j < n) : (rep z n)[j]? = some z := by
  simp [rep, madeCells, hz, h, Nat.mod_one]

theorem make39 (n : Nat) (hn : n ≤ 5000) (w : World) : (Instr.makeSlice 39 (.int .i64 (n : Int)) (.int .i64 (n : Int))).run Yba.prog w = .ok (.slice (some ⟨w.heap.size, 0, none⟩) n n) (w.alloc (.cells (rep (.int .i64 0) n) 3)) := by
  obtain ⟨i0, hi, hz0, hz1, hz2⟩ := info_parts info3
  rw [run_makeSlice w 39 3 i0 _ Yba.underlying39 hi hz0 .i64 .i64 n n (by omega) (by omega) (by rw [hz1]; omega) (by rw [hz2]; omega) (by omega), hz1, Nat.mul_one, Int.toNat_natCast]
  rfl
theorem make42 (n : Nat) (hn : n ≤ 5000) (w : World) : (Instr.makeSlice 42 (.int .i64 (n : Int)) (.int .i64 (n : Int))).run Yba.prog w = .ok (.slice (some ⟨w.heap.size, 0, none⟩) n n) (w.alloc (.cells (rep (.bool false) n) 4)) := by
  obtain ⟨i0, hi, hz0, hz1, hz2⟩ := info_parts info4
  rw [run_makeSlice w 42 4 i0 _ Yba.underlying42 hi hz0 .i64 .i64 n n (by omega) (by omega) (by rw [hz1]; omega) (by rw [hz2]; omega) (by omega), hz1, Nat.mul_one, Int.toNat_natCast]
  rfl

/-- the nodes as the law makes them -/
structure Nds (n gn : Nat) (nd : Nat → Nat) (eb : Nat → Option Addr) (el : Nat → Nat) (tg : Nat → Nat → Int) (W : World) : Prop where
  gnH : gn < W.heap.size
  ndc : ∀ j, j < n → nd j < W.heap.size ∧ W.cell? ⟨gn, j, none⟩ = some (.pointer (some ⟨nd j, 0, none⟩)) ∧ W.cell? ⟨nd j, 39, none⟩ = some (.slice (eb j) (el j) (el j)) ∧ el j ≤ 4096
  ix : ∀ j, j < n → W.cell? ⟨nd j, 36, none⟩ = some (.int .i32 (j : Int))
  tg : ∀ j, j < n → ∀ k, k < el j → (∃ g, eb j = some ⟨g, 0, none⟩ ∧ g < W.heap.size ∧ W.cell? ⟨g, k * 3, none⟩ = some (.int .i32 (tg j k)) ∧ W.cell? ⟨g, k * 3 + 1, none⟩ = some (.int .i32 0) ∧ W.cell? ⟨g, k * 3 + 2, none⟩ = some (.int .i32 (-1))) ∧ (Lit.int .i32 (tg j k)).wf = true

structure C1 (n gn : Nat) (W : World) (k : Nat) (wr : World) : Prop where
  size : wr.heap.size = W.heap.size + 3
  bel : Below W.heap.size W wr
  c0 : wr.cell? ⟨W.heap.size, 0, none⟩ = some (.slice (some ⟨gn, 0, none⟩) n n)
  c2 : wr.cell? ⟨W.heap.size + 2, 0, none⟩ = some (.map (some (W.heap.size + 1)))
  mp : Mp wr (W.heap.size + 1) k

theorem make80 (n : Nat) (w : World) : (Instr.makeMap 80 (some (.int .i64 (n : Int)))).run Yba.prog w = .ok (.map (some w.heap.size)) (w.alloc (.map #[] 0)) := by
  simp [Instr.makeMap, go_sem]

theorem C1.start {n gn : Nat} (W : World) : C1 n gn W 0 (((W.alloc (.cells #[.slice (some ⟨gn, 0, none⟩) n n] 24)).alloc (.map #[] 0)).alloc (.cells #[.map (some (W.heap.size + 1))] 80)) := by
  have h1 : Mp ((W.alloc (.cells #[.slice (some ⟨gn, 0, none⟩) n n] 24)).alloc (.map #[] 0)) (W.heap.size + 1) 0 := by simpa using mp_made (W.alloc (.cells #[.slice (some ⟨gn, 0, none⟩) n n] 24))
  refine ⟨by simp, (((Below.refl _ _).alloc (Nat.le_refl _) _).alloc (by simp) _).alloc (by simp; omega) _, ?_, ?_, h1.block (Below.heap_alloc _ _ _ (by simp))⟩
  · rw [World.cell?_alloc_past _ _ _ (by simp; omega), World.cell?_alloc_past _ _ _ (by simp), World.cell?_alloc_at _ _ _ _ rfl]; rfl
  · rw [World.cell?_alloc_at _ _ _ _ (by simp)]; rfl

theorem C1.step {n gn : Nat} {W wr w1 : World} {k : Nat} (h : C1 n gn W k wr) (ht : wr.drew.mapTurned w1 (W.heap.size + 1)) (hm : Mp w1 (W.heap.size + 1) (k + 1)) : C1 n gn W (k + 1) w1 := by
  have hg := ht.grown
  have hs := h.size
  have hb : ∀ j, j < wr.heap.size → j ≠ W.heap.size + 1 → w1.heap[j]? = wr.heap[j]? := fun j h1 h2 => hg.block j h1 (fun e => h2 (by cases e; rfl))
  have hsz : w1.heap.size = wr.heap.size := by
    obtain ⟨es, cl, es', cl', _, e⟩ := ht
    rw [e]; show (wr.heap.setIfInBounds _ _).size = _; simp
  refine ⟨by omega, h.bel.trans ⟨hg.os, hg.tape, hg.output, hg.size, fun j hj => hb j (by omega) (by omega)⟩, ?_, ?_, hm⟩
  · rw [cells_at (hb _ (by omega) (by omega))]; exact h.c0
  · rw [cells_at (hb _ (by omega) (by omega))]; exact h.c2

theorem at_app {b wr : World} {l : List Obj} (hh : b.heap = wr.heap ++ l.toArray) {H k : Nat} {o : Obj} (hH : wr.heap.size = H) (hk : l[k]? = some o) : b.heap[H + k]? = some o := by
  subst hH
  rw [hh, Array.getElem?_append_right (by omega), Nat.add_sub_cancel_left]
  simpa using hk
theorem at_old {b wr : World} {l : List Obj} (hh : b.heap = wr.heap ++ l.toArray) {j : Nat} (hj : j < wr.heap.size) : b.heap[j]? = wr.heap[j]? := by
  rw [hh, Array.getElem?_append_left hj]

theorem alloc_heap (w : World) (o : Obj) : (w.alloc o).heap = w.heap.push o := rfl

theorem run_store_func {P : Program} {w : World} {a : Addr} {m : Mode} (f : Fn) (ts : Array Value) (cap : Array Value) : (store a (.func f ts cap) m).run P w = stored P w a (.func f ts cap) m := run_store P w a _ m rfl
attribute [local go_sem] run_store_func

def s00 : Sg := ⟨0, fun _ => 0, fun _ => 0, [], []⟩
theorem inv_start (n : Nat) (E : Nat → Nat → Prop) : Inv n E s00 [] :=
  ⟨fun v hv => absurd rfl hv, fun v => by simp [s00], fun v hv => by simp [s00] at hv, by simp [s00], by simp [s00], fun c hc => by simp [s00] at hc, fun c hc => by simp [s00] at hc, fun k c hk => by simp [s00] at hk, fun x hx => by simp at hx, fun x hx => by simp at hx, fun v hv => by simp [s00] at hv, by simp [s00]⟩
theorem white_start (n : Nat) : white n s00.idx = n := by
  unfold white
  rw [List.filter_eq_self.2 (fun _ _ => by simp [s00])]; simp

structure L3 (H n : Nat) (nd : Nat → Nat) (el : Nat → Nat) (tg : Nat → Nat → Int) (b : World) (v : Value) (g : Nat) (wr : World) : Prop where
  ex : ∃ (k : Nat) (s : Sg) (aS : Option Addr) (cS : Nat) (aC : Option Addr) (cC : Nat) (cv : List Value), k + g = n ∧ v = .int .i64 (k : Int) ∧ TW H n nd b s aS cS aC cC cv wr ∧ Inv n (Ed n el tg) s [] ∧ (∀ j, j < k → s.idx j ≠ 0) ∧ s.cnt + white n s.idx ≤ 256

theorem lay_start {n gn : Nat} {nd : Nat → Nat} {eb : Nat → Option Addr} {el : Nat → Nat} {tg : Nat → Nat → Int} {W wr W2 : World} (hN : Nds n gn nd eb el tg W) (hc : C1 n gn W n wr) (hh : W2.heap = wr.heap ++ ([.cells (rep (.int .i64 0) n) 3, .cells #[.slice (some ⟨W.heap.size + 3, 0, none⟩) n n] 39, .cells (rep (.int .i64 0) n) 3, .cells #[.slice (some ⟨W.heap.size + 5, 0, none⟩) n n] 39, .cells (rep (.bool false) n) 4, .cells #[.slice (some ⟨W.heap.size + 7, 0, none⟩) n n] 42, .cells #[.slice none 0 0] 39, .cells #[.slice none 0 0] 37, .cells #[.int .i64 0] 3, .cells #[.nilFunc] 81] : List Obj).toArray) (ho : W2.os = wr.os ∧ W2.tape = wr.tape ∧ W2.output = wr.output) {b : World} (hb : b = W2.setCell ⟨W.heap.size + 12, 0, none⟩ (.func (.func 12) #[] (vcap W.heap.size))) :
    Lay W.heap.size n gn nd eb el tg b ∧ TW W.heap.size n nd b s00 none 0 none 0 [] b ∧ Below W.heap.size W b := by
  have hsz := hc.size
  have hne : ∀ j, j ≠ W.heap.size + 12 → b.heap[j]? = W2.heap[j]? := fun j hj => by rw [hb]; exact Below.heap_setCell _ _ _ _ hj
  have hob : ∀ j, j < W.heap.size + 3 → b.heap[j]? = wr.heap[j]? := fun j hj => (hne j (by omega)).trans (at_old hh (by omega))
  have e3 : b.heap[W.heap.size + 3]? = some (.cells (rep (.int .i64 0) n) 3) := (hne _ (by omega)).trans (at_app hh hsz (k := 0) rfl)
  have e4 : b.heap[W.heap.size + 4]? = some (.cells #[.slice (some ⟨W.heap.size + 3, 0, none⟩) n n] 39) := (hne _ (by omega)).trans (at_app hh hsz (k := 1) rfl)
  have e5 : b.heap[W.heap.size + 5]? = some (.cells (rep (.int .i64 0) n) 3) := (hne _ (by omega)).trans (at_app hh hsz (k := 2) rfl)
  have e6 : b.heap[W.heap.size + 6]? = some (.cells #[.slice (some ⟨W.heap.size + 5, 0, none⟩) n n] 39) := (hne _ (by omega)).trans (at_app hh hsz (k := 3) rfl)
  have e7 : b.heap[W.heap.size + 7]? = some (.cells (rep (.bool false) n) 4) := (hne _ (by omega)).trans (at_app hh hsz (k := 4) rfl)
  have e8 : b.heap[W.heap.size + 8]? = some (.cells #[.slice (some ⟨W.heap.size + 7, 0, none⟩) n n] 42) := (hne _ (by omega)).trans (at_app hh hsz (k := 5) rfl)
  have e9 : b.heap[W.heap.size + 9]? = some (.cells #[.slice none 0 0] 39) := (hne _ (by omega)).trans (at_app hh hsz (k := 6) rfl)
  have e10 : b.heap[W.heap.size + 10]? = some (.cells #[.slice none 0 0] 37) := (hne _ (by omega)).trans (at_app hh hsz (k := 7) rfl)
  have e11 : b.heap[W.heap.size + 11]? = some (.cells #[.int .i64 0] 3) := (hne _ (by omega)).trans (at_app hh hsz (k := 8) rfl)
  have e12 : W2.heap[W.heap.size + 12]? = some (.cells #[.nilFunc] 81) := at_app hh hsz (k := 9) rfl
  have c12' : W2.cell? ⟨W.heap.size + 12, 0, none⟩ = some .nilFunc := by simp [World.cell?, e12]
  have c12 : b.cell? ⟨W.heap.size + 12, 0, none⟩ = some (.func (.func 12) #[] (vcap W.heap.size)) := by rw [hb]; exact World.cell?_setCell_same _ _ _ c12'
  have hbs : b.heap.size = W.heap.size + 13 := by rw [hb, World.size_setCell, hh]; simp [hsz]
  have hlo : ∀ j, j < W.heap.size → b.heap[j]? = W.heap[j]? := fun j hj => (hob j (by omega)).trans (hc.bel.block j hj)
  have hob2 : b.os = W.os ∧ b.tape = W.tape ∧ b.output = W.output := by rw [hb]; exact ⟨ho.1.trans hc.bel.os, ho.2.1.trans hc.bel.tape, ho.2.2.trans hc.bel.output⟩
  refine ⟨⟨hN.gnH, ?_, fun j hj => ?_, fun j hj k hk => ?_, hc.mp.block (hob _ (by omega)), ?_, ?_, ?_, ?_, c12⟩, ⟨rfl, rfl, rfl, by omega, fun _ _ _ _ _ _ _ _ => rfl, fun j h1 h2 o => ?_, ?_, fun j hj => ?_, fun j hj => ?_, fun j hj => ?_, ?_, ⟨rfl, .inl ⟨rfl, rfl⟩⟩, ?_, ⟨rfl, .inl ⟨rfl, rfl⟩⟩, fun k c hk => by simp [s00] at hk⟩, ⟨hob2.1, hob2.2.1, hob2.2.2, by omega, hlo⟩⟩
  · rw [cells_at (hob _ (by omega))]; exact hc.c0
  · obtain ⟨h1, h2, h3, h4⟩ := hN.ndc j hj
    exact ⟨h1, by rw [cells_at (hlo _ hN.gnH)]; exact h2, by rw [cells_at (hlo _ h1)]; exact h3, h4⟩
  · obtain ⟨⟨g, h1, h2, h3, h4, h5⟩, h6⟩ := hN.tg j hj k hk
    exact ⟨⟨g, h1, h2, by rw [cells_at (hlo g h2)]; exact h3, by rw [cells_at (hlo g h2)]; exact h4, by rw [cells_at (hlo g h2)]; exact h5⟩, h6⟩
  · rw [cells_at (hob _ (by omega))]; exact hc.c2
  · simp [World.cell?, e4]
  · simp [World.cell?, e6]
  · simp [World.cell?, e8]
  · have hj : j = W.heap.size + 3 ∨ j = W.heap.size + 4 ∨ j = W.heap.size + 5 ∨ j = W.heap.size + 6 ∨ j = W.heap.size + 7 ∨ j = W.heap.size + 8 ∨ j = W.heap.size + 9 ∨ j = W.heap.size + 10 ∨ j = W.heap.size + 11 := by omega
    rcases hj with rfl | rfl | rfl | rfl | rfl | rfl | rfl | rfl | rfl
    · simp [World.frozen?, e3]
    · simp [World.frozen?, e4]
    · simp [World.frozen?, e5]
    · simp [World.frozen?, e6]
    · simp [World.frozen?, e7]
    · simp [World.frozen?, e8]
    · simp [World.frozen?, e9]
    · simp [World.frozen?, e10]
    · simp [World.frozen?, e11]
  · simp [World.cell?, e11, s00]
  · simp only [World.cell?, e3]; exact rep_at rfl n j hj
  · simp only [World.cell?, e5]; exact rep_at rfl n j hj
  · simp only [World.cell?, e7]; exact (rep_at rfl n j hj).trans (by simp [s00])
  · simp [World.cell?, e9, s00]
  · simp [World.cell?, e10, s00]

set_option maxRecDepth 100000 in
set_option maxHeartbeats 400000 in
theorem comps_tail (n gn : Nat) (nd : Nat → Nat) (eb : Nat → Option Addr) (el : Nat → Nat) (tg : Nat → Nat → Int) (W wr : World) (hn : n ≤ 256) (hN : Nds n gn nd eb el tg W) (hc : C1 n gn W n wr) (v0 v2 v4 v5 v6 v7 v8 v9 v10 v11 v12 v13 v14 v15 v16 v17 v18 v19 v20 v21 v22 v23 v24 v25 v26 v27 v28 v29 v30 v31 v32 v33 v34 v35 v36 v37 v38 v39 v40 v41 v42 v43 v44 v45 v46 v47 v48 v49 v50 v51 v52 v53 v54 v55 : Value) :
    Code.wp Yba.prog (tailN 3 (Yba.f7.body.getD .skip)) (bodyPost Yba.prog Yba.f7 fun e W' => ∃ (s : Sg) (aC : Option Addr) (cC : Nat) (cv : List Value), e = .returned (.slice aC s.cs.length cC) ∧ Below W.heap.size W W' ∧ Inv n (Ed n el tg) s [] ∧ s.cnt ≤ 256 ∧ (∀ j, j < n → s.idx j ≠ 0) ∧ W'.ownsRow (W.heap.size + 13) 24 1 (.slice aC s.cs.length cC) s.cs.length cv ∧
      ∀ (k : Nat) (c : List Nat), s.cs[k]? = some c → ∃ v, cv[k]? = some v ∧ W'.ownsRow (W.heap.size + 13) 28 1 v c.length (ptrs nd c)) { tmps := List.toArray (v0 :: .pointer (some ⟨W.heap.size, 0, none⟩) :: v2 :: .pointer (some ⟨W.heap.size + 2, 0, none⟩) :: v4 :: v5 :: v6 :: v7 :: v8 :: v9 :: v10 :: v11 :: v12 :: v13 :: v14 :: v15 :: v16 :: v17 :: v18 :: v19 :: v20 :: v21 :: v22 :: v23 :: v24 :: v25 :: v26 :: v27 :: v28 :: v29 :: v30 :: v31 :: v32 :: v33 :: v34 :: v35 :: v36 :: v37 :: v38 :: v39 :: v40 :: v41 :: v42 :: v43 :: v44 :: v45 :: v46 :: v47 :: v48 :: v49 :: v50 :: v51 :: v52 :: v53 :: v54 :: v55 :: []), defers := [] } wr := by
  conv => arg 2; whnf
  have c0 := hc.c0
  have hsz := hc.size
  have m39 := make39 n (by omega)
  have m42 := make42 n (by omega)
  go_upto_region 14 with fail
  simp only [Nat.add_assoc, Nat.reduceAdd]
  refine at_world fun W2 hW2 => ?_
  have hh : W2.heap = wr.heap ++ ([.cells (rep (.int .i64 0) n) 3, .cells #[.slice (some ⟨W.heap.size + 3, 0, none⟩) n n] 39, .cells (rep (.int .i64 0) n) 3, .cells #[.slice (some ⟨W.heap.size + 5, 0, none⟩) n n] 39, .cells (rep (.bool false) n) 4, .cells #[.slice (some ⟨W.heap.size + 7, 0, none⟩) n n] 42, .cells #[.slice none 0 0] 39, .cells #[.slice none 0 0] 37, .cells #[.int .i64 0] 3, .cells #[.nilFunc] 81] : List Obj).toArray := by
    rw [hW2]; simp only [alloc_heap]; rw [← Array.toList_inj]; simp
  have ho : W2.os = wr.os ∧ W2.tape = wr.tape ∧ W2.output = wr.output := by rw [hW2]; exact ⟨rfl, rfl, rfl⟩
  clear hW2 m39 m42 c0
  have e12 : W2.heap[W.heap.size + 12]? = some (.cells #[.nilFunc] 81) := at_app hh hsz (k := 9) rfl
  have c12 : W2.cell? ⟨W.heap.size + 12, 0, none⟩ = some .nilFunc := by simp [World.cell?, e12]
  have f12 : W2.frozen? ⟨W.heap.size + 12, 0, none⟩ = false := by simp [World.frozen?, e12]
  clear e12
  go_upto_region 15 with fail
  refine at_world fun b hb => ?_
  obtain ⟨hL, t0, hbel⟩ := lay_start hN hc hh ho (b := b) hb
  clear hb hh ho c12 f12
  have c0 := hL.c0
  have hst : L3 W.heap.size n nd el tg b (.int .i64 0) n b := ⟨0, s00, none, 0, none, 0, [], by omega, rfl, t0, inv_start _ _, fun j hj => by omega, by rw [white_start]; show 0 + n ≤ 256; omega⟩
  go_wp2
  go_loopg [43] n (fun g v wr => L3 W.heap.size n nd el tg b v g wr)
  case atStart => exact hst
  clear hst t0 c0
  case round =>
    obtain ⟨k, s, aS, cS, aC, cC, cv, hk, rfl, t1, hI, hv, hw⟩ := hrel.ex
    clear hrel
    have l1 := hL.of t1.same
    by_cases hlt : k < n
    · have hd : decide ((k : Int) < (n : Int)) = true := by simp; omega
      have c4 := l1.c4
      have c12 := l1.c12
      have q3 := t1.ix k hlt
      by_cases hz : s.idx k = 0
      · have hz' : ((s.idx k : Nat) : Int) = 0 := by omega
        rw [hz'] at q3
        have hcall := visit_any W.heap.size n gn nd eb el tg b hL _ s [] k wr aS cS aC cC cv (Nat.le_refl _) hlt hz hI (fun x hx => by cases hx) hw t1
        go_upto_region 20 with (first | (go_at_call 12; refine hcall.mono ?_; rintro e w6 ⟨rfl, s2, aS2, cS2, aC2, cC2, cv2, t7, hp, hwc2⟩))
        have FIN : Hid (L3 W.heap.size n nd el tg b (.int .i64 ((k : Int) + 1)) (n - (k + 1)) w6) := L3.mk ⟨k + 1, s2, _, _, _, _, _, by omega, by simp, t7, hp.inv, fun j hj => by
          by_cases e : j = k
          · rw [e]; exact hp.vis
          · exact hp.ext.vis (hv j (by omega)), by omega⟩
        clear t7 hp hcall t1 l1 c4 c12 q3
        go_wp2
        go_roundg (n - (k + 1))
        case measure => omega
        case rel => exact FIN.out
      · have hz' : decide (((s.idx k : Nat) : Int) = 0) = false := by simp [hz]
        have FIN : Hid (L3 W.heap.size n nd el tg b (.int .i64 ((k : Int) + 1)) (n - (k + 1)) wr) := L3.mk ⟨k + 1, s, _, _, _, _, _, by omega, by simp, t1, hI, fun j hj => by
          by_cases e : j = k
          · rw [e]; exact hz
          · exact hv j (by omega), hw⟩
        go_wp2
        go_roundg (n - (k + 1))
        case measure => omega
        case rel => exact FIN.out
    · have hd : decide ((k : Int) < (n : Int)) = false := by simp; omega
      obtain rfl : n = k := by omega
      have c10 := t1.sC
      have hB : Below W.heap.size W wr := ⟨t1.os.trans hbel.os, t1.tape.trans hbel.tape, t1.output.trans hbel.output, by have := t1.sz; omega, fun j hj => (t1.same j (by omega) (by omega) (by omega) (by omega) (by omega) (by omega) (by omega)).trans (hbel.block j hj)⟩
      go_wp2
      go_ret
      exact ⟨s, aC, cC, cv, rfl, hB, hI, by omega, hv, t1.rC, t1.rv⟩

set_option maxRecDepth 100000 in
set_option maxHeartbeats 400000 in
theorem comps_any (n gn : Nat) (nd : Nat → Nat) (eb : Nat → Option Addr) (el : Nat → Nat) (tg : Nat → Nat → Int) (W : World) (hn : n ≤ 256) (hN : Nds n gn nd eb el tg W) :
    Calls Yba.prog 7 #[.slice (some ⟨gn, 0, none⟩) n n] W fun e W' => ∃ (s : Sg) (aC : Option Addr) (cC : Nat) (cv : List Value), e = .returned (.slice aC s.cs.length cC) ∧ Below W.heap.size W W' ∧ Inv n (Ed n el tg) s [] ∧ s.cnt ≤ 256 ∧ (∀ j, j < n → s.idx j ≠ 0) ∧ W'.ownsRow (W.heap.size + 13) 24 1 (.slice aC s.cs.length cC) s.cs.length cv ∧
      ∀ (k : Nat) (c : List Nat), s.cs[k]? = some c → ∃ v, cv[k]? = some v ∧ W'.ownsRow (W.heap.size + 13) 28 1 v c.length (ptrs nd c) := by
  have hmm := make80 n
  go_enter Yba.func7, Yba.ntmps7
  go_upto_region 2 with fail
  have hst := @C1.start n gn W
  refine at_world fun W1 hW1 => ?_
  rw [← hW1] at hst
  clear hW1 hmm
  have c0 := hst.c0
  rename_i K2 hK2 K1 hK1
  have HK : Hid _ := hK2
  clear hK2 
  go_wp2
  clear c0
  go_loopg [19] n (fun g v wr => ∃ k : Nat, k + g = n ∧ v = .int .i64 (k : Int) ∧ C1 n gn W k wr)
  case atStart => exact ⟨0, by omega, rfl, hst⟩
  clear hst
  case round =>
    obtain ⟨k, hk, rfl, h1⟩ := hrel
    by_cases hlt : k < n
    · have hd : decide ((k : Int) < (n : Int)) = true := by simp; omega
      obtain ⟨n1, n2, _, _⟩ := hN.ndc k hlt
      have n3 := hN.ix k hlt
      have n2' : wr.cell? ⟨gn, k, none⟩ = some (.pointer (some ⟨nd k, 0, none⟩)) := (h1.bel.cell (p := ⟨gn, k, none⟩) hN.gnH).trans n2
      have n3' : wr.cell? ⟨nd k, 36, none⟩ = some (.int .i32 (k : Int)) := (h1.bel.cell (p := ⟨nd k, 36, none⟩) n1).trans n3
      have c2 := h1.c2
      obtain ⟨w1, hrun, hm1, ht1⟩ := (h1.mp.block (w' := wr.drew) rfl).store (by omega)
      go_upto_region 5 with fail
      go_still_tail 6, (by kernel_rfl)
      go_wp2
      go_roundg (n - (k + 1))
      case measure => omega
      case rel => exact ⟨k + 1, by omega, by go_num, h1.step ht1 hm1⟩
    · have hd : decide ((k : Int) < (n : Int)) = false := by simp; omega
      obtain rfl : n = k := by omega
      go_wp2
      refine HK.out _ _ ?_
      exact comps_tail n gn nd eb el tg W wr hn hN h1 _ _ _ _ _ _ _ _ _ _ _ _ _ _ _ _ _ _ _ _ _ _ _ _ _ _ _ _ _ _ _ _ _ _ _ _ _ _ _ _ _ _ _ _ _ _ _ _ _ _ _ _ _ _
end Go.Proofs.Ybulkboyu.scc
