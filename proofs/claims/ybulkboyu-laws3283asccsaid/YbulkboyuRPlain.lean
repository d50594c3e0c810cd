import Derived.Test.YbulkboyuComps
namespace Go.Proofs.Ybulkboyu.scc
open Go.ChangeShapes Go.WideShapes Go.ChangeAt Go.RowKit Go.Shelf

theorem info42 : (Yba.prog.info? 42).map (fun i => (i.zero, i.size, i.bytes)) = some (some (.slice none 0 0), 1, 24) := by kernel_rfl
theorem make40 (n : Nat) (hn : n ≤ 5000) (w : World) : (Instr.makeSlice 40 (.int .i64 (n : Int)) (.int .i64 (n : Int))).run Yba.prog w = .ok (.slice (some ⟨w.heap.size, 0, none⟩) n n) (w.alloc (.cells (rep (.slice none 0 0) n) 42)) := by
  obtain ⟨i0, hi, hz0, hz1, hz2⟩ := info_parts info42
  rw [run_makeSlice w 40 42 i0 _ Yba.underlying40 hi hz0 .i64 .i64 n n (by omega) (by omega) (by rw [hz1]; omega) (by rw [hz2]; omega) (by omega), hz1, Nat.mul_one, Int.toNat_natCast]
  rfl

/-- the graph as it came in -/
structure Adj (n : Nat) (a0 : Option Addr) (ea : Nat → Option Addr) (el ec : Nat → Nat) (tg : Nat → Nat → Int) (W : World) : Prop where
  row : ∀ u, u < n → ∃ x, a0 = some x ∧ W.cell? (x.add u) = some (.slice (ea u) (el u) (ec u)) ∧ el u ≤ 4096
  tgt : ∀ u, u < n → ∀ k, k < el u → ∃ y, ea u = some y ∧ W.cell? (y.add k) = some (.int .i32 (tg u k)) ∧ (Lit.int .i32 (tg u k)).wf = true

theorem Adj.below {n : Nat} {a0 : Option Addr} {ea : Nat → Option Addr} {el ec : Nat → Nat} {tg : Nat → Nat → Int} {W W' : World} (h : Adj n a0 ea el ec tg W) (hb : Below W.heap.size W W') : Adj n a0 ea el ec tg W' :=
  ⟨fun u hu => by
    obtain ⟨x, h1, h2, h3⟩ := h.row u hu
    exact ⟨x, h1, (hb.cell (World.block_lt_of_cell? _ _ h2)).trans h2, h3⟩,
   fun u hu k hk => by
    obtain ⟨x, h1, h2, h3⟩ := h.tgt u hu k hk
    exact ⟨x, h1, (hb.cell (World.block_lt_of_cell? _ _ h2)).trans h2, h3⟩⟩

def unm (n : Nat) (r : Nat → Bool) : Nat := white n fun j => if r j then 1 else 0
theorem unm_set {n t : Nat} {r : Nat → Bool} (ht : t < n) (hr : r t = false) : unm n (setB r t true) + 1 = unm n r := by
  have := wset (idx := fun j => if r j then 1 else 0) ht (by simp [hr]) (x := 1) (by decide)
  rw [show setN (fun j => if r j then 1 else 0) t 1 = fun j => if setB r t true j then 1 else 0 from by
    funext j
    by_cases e : j = t
    · simp [setN, setB, e]
    · simp [setN, setB, e]] at this
  exact this
theorem unm_le (n : Nat) (r : Nat → Bool) : unm n r ≤ n := by
  have := List.length_filter_le (fun j => decide ((if r j then 1 else 0) = 0)) (List.range n)
  simpa [unm, white] using this

/-- the search from s: marked r, to do st; of the node 'cur' (if any) the targets D are done -/
structure DF (n : Nat) (E : Nat → Nat → Prop) (s : Nat) (r : Nat → Bool) (st : List Nat) (cur : Option Nat) (D : Nat → Prop) : Prop where
  hs : r s = true
  m : ∀ u, u ∈ st → r u = true
  rc : ∀ u, r u = true → u < n ∧ R E s u
  cl : ∀ u, r u = true → u ∉ st → some u ≠ cur → ∀ t, E u t → r t = true
  cu : ∀ u, cur = some u → r u = true ∧ ∀ t, D t → r t = true

theorem DF.start {n : Nat} {E : Nat → Nat → Prop} {s : Nat} (hs : s < n) {r0 : Nat → Bool} (h0 : ∀ j, r0 j = false) : DF n E s (setB r0 s true) [s] none (fun _ => False) := by
  have hr : ∀ u, setB r0 s true u = true ↔ u = s := fun u => by by_cases e : u = s <;> simp [setB, e, h0]
  exact ⟨(hr s).2 rfl, fun u hu => (hr u).2 (by simpa using hu), fun u hu => by rw [(hr u).1 hu]; exact ⟨hs, .refl _⟩, fun u hu hn => absurd (by rw [(hr u).1 hu]; simp) hn, fun u hu => by cases hu⟩

theorem DF.pop {n : Nat} {E : Nat → Nat → Prop} {s u : Nat} {r : Nat → Bool} {st : List Nat} {D : Nat → Prop} (h : DF n E s r (u :: st) none D) : DF n E s r st (some u) (fun _ => False) :=
  ⟨h.hs, fun v hv => h.m v (List.mem_cons_of_mem _ hv), h.rc, fun v hv hn hc => h.cl v hv (fun hm => by rcases List.mem_cons.1 hm with e | hm; exact hc (by rw [e]); exact hn hm) (by simp), fun v hv => by cases hv; exact ⟨h.m u List.mem_cons_self, fun _ h => h.elim⟩⟩

theorem DF.skip {n : Nat} {E : Nat → Nat → Prop} {s u t : Nat} {r : Nat → Bool} {st : List Nat} {D : Nat → Prop} (h : DF n E s r st (some u) D) (ht : r t = true) : DF n E s r st (some u) (fun x => D x ∨ x = t) :=
  ⟨h.hs, h.m, h.rc, h.cl, fun v hv => ⟨(h.cu v hv).1, fun x hx => hx.elim ((h.cu v hv).2 x) (fun e => e ▸ ht)⟩⟩

theorem DF.mark {n : Nat} {E : Nat → Nat → Prop} {s u t : Nat} {r : Nat → Bool} {st : List Nat} {D : Nat → Prop} (h : DF n E s r st (some u) D) (hE : E u t) (htn : t < n) : DF n E s (setB r t true) (t :: st) (some u) (fun x => D x ∨ x = t) := by
  have hr : ∀ v, setB r t true v = true ↔ v = t ∨ r v = true := fun v => by by_cases e : v = t <;> simp [setB, e]
  obtain ⟨h1, h2⟩ := h.cu u rfl
  refine ⟨(hr s).2 (.inr h.hs), fun v hv => (hr v).2 ?_, fun v hv => ?_, fun v hv hn hc x hx => ?_, fun v hv => ?_⟩
  · rcases List.mem_cons.1 hv with e | hv
    · exact .inl e
    · exact .inr (h.m v hv)
  · rcases (hr v).1 hv with rfl | hv
    · exact ⟨htn, (h.rc u h1).2.step hE⟩
    · exact h.rc v hv
  · rcases (hr v).1 hv with rfl | hv
    · exact absurd List.mem_cons_self hn
    · exact (hr x).2 (.inr (h.cl v hv (fun hm => hn (List.mem_cons_of_mem _ hm)) hc x hx))
  · cases hv
    exact ⟨(hr u).2 (.inr h1), fun x hx => (hr x).2 (hx.elim (fun hd => .inr (h2 x hd)) .inl)⟩

theorem DF.done {n : Nat} {E : Nat → Nat → Prop} {s u : Nat} {r : Nat → Bool} {st : List Nat} (h : DF n E s r st (some u) (E u)) : DF n E s r st none (fun _ => False) :=
  ⟨h.hs, h.m, h.rc, fun v hv hn _ t ht => by
    by_cases e : v = u
    · subst e; exact (h.cu v rfl).2 t ht
    · exact h.cl v hv hn (fun e' => e (by cases e'; rfl)) t ht, fun _ hv => by cases hv⟩

theorem DF.dmono {n : Nat} {E : Nat → Nat → Prop} {s : Nat} {r : Nat → Bool} {st : List Nat} {cur : Option Nat} {D D' : Nat → Prop} (h : DF n E s r st cur D) (hd : ∀ t, D' t → D t) : DF n E s r st cur D' :=
  ⟨h.hs, h.m, h.rc, h.cl, fun u hu => ⟨(h.cu u hu).1, fun t ht => (h.cu u hu).2 t (hd t ht)⟩⟩

theorem DF.fin {n : Nat} {E : Nat → Nat → Prop} {s : Nat} {r : Nat → Bool} {D : Nat → Prop} (h : DF n E s r [] none D) (t : Nat) : r t = true ↔ R E s t := by
  refine ⟨fun ht => (h.rc t ht).2, fun ht => ?_⟩
  exact R.ind (M := fun x => r x = true) h.hs (fun _ _ _ ih e => h.cl _ ih (by simp) (by simp) _ e) ht

/-- the memory of one search: B: the row of marks -/
structure Se (n B : Nat) (w0 : World) (r : Nat → Bool) (st : List Nat) (aS : Option Addr) (cS : Nat) (wr : World) : Prop where
  bel : Below B w0 wr
  sz : B + 1 ≤ wr.heap.size
  rr : ∀ t, t < n → wr.cell? ⟨B, t, none⟩ = some (.bool (r t))
  fr : ∀ o, wr.frozen? ⟨B, o, none⟩ = false
  st : wr.ownsRow (B + 1) 3 1 (.slice aS st.length cS) st.length (ints st.reverse)

theorem Se.pop {n B : Nat} {w0 wr : World} {r : Nat → Bool} {u : Nat} {st : List Nat} {aS : Option Addr} {cS : Nat} (h : Se n B w0 r (u :: st) aS cS wr) : (∃ g, aS = some ⟨g, 0, none⟩ ∧ wr.cell? ⟨g, st.length, none⟩ = some (.int .i64 (u : Int)) ∧ st.length + 1 ≤ cS ∧ cS ≤ maxLen) ∧ Se n B w0 r st aS cS wr := by
  obtain ⟨g, cap, e⟩ := own_succ h.st
  have ha : aS = some ⟨g, 0, none⟩ ∧ cS = cap := by simpa using e
  obtain ⟨rfl, rfl⟩ := ha
  obtain ⟨_, _, h3, h4, h5⟩ := row_facts h.st
  have hr : wr.ownsRow (B + 1) 3 1 (.slice (some ⟨g, 0, none⟩) (st.length + 1) cS) (st.length + 1) (ints st.reverse ++ [.int .i64 (u : Int)]) := by simpa using h.st
  exact ⟨⟨g, rfl, h5 _ _ (by simp), h3, h4⟩, h.bel, h.sz, h.rr, h.fr, row_pop hr⟩

theorem Se.mark {n B : Nat} {w0 wr : World} {r : Nat → Bool} {st : List Nat} {aS : Option Addr} {cS : Nat} (h : Se n B w0 r st aS cS wr) {t : Nat} (ht : t < n) : Se n B w0 (setB r t true) st aS cS (wr.setCell ⟨B, t, none⟩ (.bool true)) :=
  ⟨h.bel.setCell (Nat.le_refl _) _, by rw [World.size_setCell]; exact h.sz, fun j hj => by
    by_cases e : j = t
    · subst e; simp only [setB, if_true]; exact World.cell?_setCell_same _ _ _ (h.rr j hj)
    · simp only [setB, if_neg e]; rw [other_off (fun e' => e e'.symm)]; exact h.rr j hj, fun o => by rw [World.frozen?_setCell]; exact h.fr o, row_put h.st (by omega)⟩

theorem Se.push {n B : Nat} {w0 wr w' : World} {r : Nat → Bool} {st : List Nat} {aS : Option Addr} {cS t g cap : Nat} (h : Se n B w0 r st aS cS wr) (hg : wr.grownBy w' (Value.slice aS st.length cS).ownBlock) (hr : w'.ownsRow (B + 1) 3 1 (.slice (some ⟨g, 0, none⟩) (st.length + 1) cap) (st.length + 1) (ints st.reverse ++ [.int .i64 (t : Int)])) :
    Se n B w0 r (t :: st) (some ⟨g, 0, none⟩) cap w' := by
  have hs := h.sz
  have hb : ∀ j, j < B + 1 → w'.heap[j]? = wr.heap[j]? := fun j hj => hg.block j (by omega) (fun e => by have := (h.st.lt j e.symm).1; omega)
  have hsz := hg.size
  exact ⟨h.bel.trans ⟨hg.os, hg.tape, hg.output, hg.size, fun j hj => hb j (by omega)⟩, by omega, fun j hj => by rw [cells_at (hb B (by omega))]; exact h.rr j hj, fun o => by rw [frozen_at (hb B (by omega))]; exact h.fr o, by simpa using hr⟩

/-- the rows that are done -/
structure Qr (n : Nat) (E : Nat → Nat → Prop) (W : World) (k : Nat) (wr : World) : Prop where
  bel : Below W.heap.size W wr
  sz : W.heap.size + 1 ≤ wr.heap.size
  fr : ∀ o, wr.frozen? ⟨W.heap.size, o, none⟩ = false
  zs : ∀ j, j < n → ∃ v, wr.cell? ⟨W.heap.size, j, none⟩ = some v
  rows : ∃ (gq : Nat → Nat) (rc : Nat → Nat → Bool), ∀ j, j < k → wr.cell? ⟨W.heap.size, j, none⟩ = some (.slice (some ⟨gq j, 0, none⟩) n n) ∧ W.heap.size < gq j ∧ gq j < wr.heap.size ∧ ∀ t, t < n → wr.cell? ⟨gq j, t, none⟩ = some (.bool (rc j t)) ∧ (rc j t = true ↔ R E j t)

theorem Qr.next {n : Nat} {E : Nat → Nat → Prop} {W wq wr : World} {k : Nat} {r : Nat → Bool} {aS : Option Addr} {cS : Nat} {D : Nat → Prop} (h : Qr n E W k wq) (hk : k < n) (hs : Se n wq.heap.size wq r [] aS cS wr) (hd : DF n E k r [] none D) : Qr n E W (k + 1) (wr.setCell ⟨W.heap.size, k, none⟩ (.slice (some ⟨wq.heap.size, 0, none⟩) n n)) := by
  have hz := h.sz
  have hz2 := hs.sz
  have hb : ∀ j, j < wq.heap.size → wr.heap[j]? = wq.heap[j]? := hs.bel.block
  obtain ⟨gq, rc, hrow⟩ := h.rows
  obtain ⟨v0, hv0⟩ := h.zs k hk
  have hB : Below W.heap.size W wr := h.bel.trans (hs.bel.mono (by omega))
  refine ⟨hB.setCell (Nat.le_refl _) _, by rw [World.size_setCell]; omega, fun o => by rw [World.frozen?_setCell, frozen_at (hb _ (by omega))]; exact h.fr o, fun j hj => ?_, setN gq k wq.heap.size, fun j => if j = k then r else rc j, fun j hj => ?_⟩
  · by_cases e : j = k
    · subst e; exact ⟨_, World.cell?_setCell_same _ _ _ ((cells_at (hb _ (by omega)) _).trans hv0)⟩
    · obtain ⟨v, hv⟩ := h.zs j hj
      exact ⟨v, by rw [other_off (fun e' => e e'.symm), cells_at (hb _ (by omega))]; exact hv⟩
  · by_cases e : j = k
    · subst e
      rw [setN_same]
      simp only [if_true]
      refine ⟨World.cell?_setCell_same _ _ _ ((cells_at (hb _ (by omega)) _).trans hv0), by omega, by rw [World.size_setCell]; omega, fun t ht => ⟨?_, hd.fin t⟩⟩
      rw [other (by omega)]; exact hs.rr t ht
    · rw [setN_ne _ _ e]
      simp only [if_neg e]
      obtain ⟨h1, h2, h3, h4⟩ := hrow j (by omega)
      refine ⟨by rw [other_off (fun e' => e e'.symm), cells_at (hb _ (by omega))]; exact h1, h2, by rw [World.size_setCell]; omega, fun t ht => ⟨?_, (h4 t ht).2⟩⟩
      rw [other (by omega), cells_at (hb _ h3)]; exact (h4 t ht).1
end Go.Proofs.Ybulkboyu.scc
