import Derived.Test.YbulkboyuTState
namespace Go.Proofs.Ybulkboyu.scc
open Go.ChangeShapes Go.WideShapes Go.ChangeAt Go.RowKit
section
variable {H n : Nat} {nd : Nat → Nat} {b W : World} {cnt : Nat} {idx low : Nat → Nat} {on : Nat → Bool} {st : List Nat} {cs : List (List Nat)} {aS : Option Addr} {cS : Nat} {aC : Option Addr} {cC : Nat} {cv : List Value}

theorem row_base {w : World} {base base' : Nat} {e : TypeId} {size n : Nat} {v : Value} {xs : List Value} (h : w.ownsRow base e size v n xs) (hb : base' ≤ base) : w.ownsRow base' e size v n xs := by
  refine ⟨h.1, ?_⟩
  rcases h.2 with h | ⟨g, cap, cur, h1, h2, h3⟩
  · exact .inl h
  · exact .inr ⟨g, cap, cur, h1, by omega, h3⟩

/-- what an append at a row of the visits leaves -/
theorem Tw.rest (h : Tw H n nd b cnt idx low on st cs aS cS aC cC cv W) {w' : World} {r : Option Nat} (hr : ∀ k, r = some k → H + 13 ≤ k) (hg : W.grownBy w' r) (B : Nat) (v : Value) (hB : B = H + 9 ∨ B = H + 10) {st' : List Nat} {cs' : List (List Nat)} {aS' aC' : Option Addr} {cS' cC' : Nat} {cv' : List Value}
    (sS : (w'.setCell ⟨B, 0, none⟩ v).cell? ⟨H + 9, 0, none⟩ = some (.slice aS' st'.length cS')) (rS : w'.ownsRow (H + 13) 3 1 (.slice aS' st'.length cS') st'.length (ints st'.reverse))
    (sC : (w'.setCell ⟨B, 0, none⟩ v).cell? ⟨H + 10, 0, none⟩ = some (.slice aC' cs'.length cC')) (rC : w'.ownsRow (H + 13) 24 1 (.slice aC' cs'.length cC') cs'.length cv')
    (rv : ∀ (k : Nat) (c : List Nat), cs'[k]? = some c → ∃ v, cv'[k]? = some v ∧ w'.ownsRow (H + 13) 28 1 v c.length (ptrs nd c)) :
    Tw H n nd b cnt idx low on st' cs' aS' cS' aC' cC' cv' (w'.setCell ⟨B, 0, none⟩ v) := by
  have hs := h.sz
  have hb : ∀ j, j < H + 13 → w'.heap[j]? = W.heap[j]? := fun j hj => hg.block j (by omega) (fun e => by have := hr j e.symm; omega)
  have hne : ∀ j, j ≠ B → (w'.setCell ⟨B, 0, none⟩ v).heap[j]? = w'.heap[j]? := fun j hj => Below.heap_setCell _ _ _ _ hj
  have hc : ∀ j, j < H + 13 → j ≠ B → ∀ o, (w'.setCell ⟨B, 0, none⟩ v).cell? ⟨j, o, none⟩ = W.cell? ⟨j, o, none⟩ := fun j h1 h2 o => cells_at ((hne j h2).trans (hb j h1)) o
  refine ⟨hg.os.trans h.os, hg.tape.trans h.tape, hg.output.trans h.output, by rw [World.size_setCell]; have := hg.size; omega, fun j h1 h2 h3 h4 h5 h6 h7 => (hne j (by omega)).trans ((hb j h1).trans (h.same j h1 h2 h3 h4 h5 h6 h7)), fun j h1 h2 o => by rw [World.frozen?_setCell, frozen_at (hb j (by omega))]; exact h.fr j h1 h2 o, ?_, fun j hj => ?_, fun j hj => ?_, fun j hj => ?_, sS, rS.kept (put_grown _ _ _ _) (low_block rS (by omega)), sC, rC.kept (put_grown _ _ _ _) (low_block rC (by omega)), fun k c hk => ?_⟩
  · rw [hc _ (by omega) (by omega)]; exact h.ct
  · rw [hc _ (by omega) (by omega)]; exact h.ix j hj
  · rw [hc _ (by omega) (by omega)]; exact h.lw j hj
  · rw [hc _ (by omega) (by omega)]; exact h.on j hj
  · obtain ⟨u, h1, h2⟩ := rv k c hk; exact ⟨u, h1, h2.kept (put_grown _ _ _ _) (low_block h2 (by omega))⟩

theorem Tw.pushed (h : Tw H n nd b cnt idx low on st cs aS cS aC cC cv W) {w' : World} {i g cap : Nat} (hg : W.grownBy w' (Value.slice aS st.length cS).ownBlock) (hr : w'.ownsRow (H + 13) 3 1 (.slice (some ⟨g, 0, none⟩) (st.length + 1) cap) (st.length + 1) (ints st.reverse ++ [.int .i64 (i : Int)])) :
    w'.cell? ⟨H + 9, 0, none⟩ = some (.slice aS st.length cS) ∧ w'.frozen? ⟨H + 9, 0, none⟩ = false ∧ Tw H n nd b cnt idx low on (i :: st) cs (some ⟨g, 0, none⟩) cap aC cC cv (w'.setCell ⟨H + 9, 0, none⟩ (.slice (some ⟨g, 0, none⟩) (st.length + 1) cap)) := by
  have hs := h.sz
  have hlow : ∀ k, (Value.slice aS st.length cS).ownBlock = some k → H + 13 ≤ k := fun k hk => (h.rS.lt k hk).1
  have hb : ∀ j, j < H + 13 → w'.heap[j]? = W.heap[j]? := fun j hj => hg.block j (by omega) (fun e => by have := hlow j e.symm; omega)
  have c9 : w'.cell? ⟨H + 9, 0, none⟩ = some (.slice aS st.length cS) := (cells_at (hb _ (by omega)) _).trans h.sS
  refine ⟨c9, (frozen_at (hb _ (by omega)) _).trans (h.fr _ (by omega) (by omega) _), ?_⟩
  refine h.rest hlow hg _ _ (.inl rfl) (World.cell?_setCell_same _ _ _ c9) (by simpa using hr) ((other (by omega)).trans ((cells_at (hb _ (by omega)) _).trans h.sC)) (h.rC.kept hg (apart h.rC h.rS (by decide))) fun k c hk => ?_
  obtain ⟨v, h1, h2⟩ := h.rv k c hk
  exact ⟨v, h1, h2.kept hg (apart h2 h.rS (by decide))⟩

theorem Tw.popped {j : Nat} (h : Tw H n nd b cnt idx low on (j :: st) cs aS cS aC cC cv W) : Tw H n nd b cnt idx low on st cs aS cS aC cC cv (W.setCell ⟨H + 9, 0, none⟩ (.slice aS st.length cS)) := by
  have hs := h.sz
  have hg : W.grownBy W none := ⟨rfl, rfl, rfl, Nat.le_refl _, fun _ _ _ => rfl⟩
  obtain ⟨g, cap, e⟩ := own_succ h.rS
  have ha : aS = some ⟨g, 0, none⟩ ∧ cS = cap := by simpa using e
  obtain ⟨rfl, rfl⟩ := ha
  have hr : W.ownsRow (H + 13) 3 1 (.slice (some ⟨g, 0, none⟩) (st.length + 1) cS) (st.length + 1) (ints st.reverse ++ [.int .i64 (j : Int)]) := by simpa using h.rS
  exact h.rest (fun k hk => by cases hk) hg _ _ (.inl rfl) (World.cell?_setCell_same _ _ _ h.sS) (row_pop hr) ((other (by omega)).trans h.sC) h.rC h.rv

/-- the top of the stack -/
theorem Tw.top {j : Nat} (h : Tw H n nd b cnt idx low on (j :: st) cs aS cS aC cC cv W) : ∃ g, aS = some ⟨g, 0, none⟩ ∧ W.cell? ⟨g, st.length, none⟩ = some (.int .i64 (j : Int)) ∧ st.length + 1 ≤ cS ∧ cS ≤ maxLen := by
  obtain ⟨g, cap, e⟩ := own_succ h.rS
  have ha : aS = some ⟨g, 0, none⟩ ∧ cS = cap := by simpa using e
  obtain ⟨rfl, rfl⟩ := ha
  obtain ⟨_, _, h3, h4, h5⟩ := row_facts h.rS
  exact ⟨g, rfl, h5 _ _ (by simp), h3, h4⟩

theorem Tw.emitted (h : Tw H n nd b cnt idx low on st cs aS cS aC cC cv W) {w' : World} {g cap base m : Nat} {c : List Nat} {aK : Option Addr} {cK : Nat} (hm : m = c.length) (hK : W.ownsRow base 28 1 (.slice aK m cK) m (ptrs nd c)) (hbase : H + 13 ≤ base) (hg : W.grownBy w' (Value.slice aC cs.length cC).ownBlock) (hr : w'.ownsRow (H + 13) 24 1 (.slice (some ⟨g, 0, none⟩) (cs.length + 1) cap) (cs.length + 1) (cv ++ [.slice aK m cK])) :
    w'.cell? ⟨H + 10, 0, none⟩ = some (.slice aC cs.length cC) ∧ w'.frozen? ⟨H + 10, 0, none⟩ = false ∧ Tw H n nd b cnt idx low on st (cs ++ [c]) aS cS (some ⟨g, 0, none⟩) cap (cv ++ [.slice aK m cK]) (w'.setCell ⟨H + 10, 0, none⟩ (.slice (some ⟨g, 0, none⟩) (cs.length + 1) cap)) := by
  subst hm
  have hs := h.sz
  have hlow : ∀ k, (Value.slice aC cs.length cC).ownBlock = some k → H + 13 ≤ k := fun k hk => (h.rC.lt k hk).1
  have hb : ∀ j, j < H + 13 → w'.heap[j]? = W.heap[j]? := fun j hj => hg.block j (by omega) (fun e => by have := hlow j e.symm; omega)
  have c10 : w'.cell? ⟨H + 10, 0, none⟩ = some (.slice aC cs.length cC) := (cells_at (hb _ (by omega)) _).trans h.sC
  have hcv : cv.length = cs.length := by have := h.rC.1; omega
  refine ⟨c10, (frozen_at (hb _ (by omega)) _).trans (h.fr _ (by omega) (by omega) _), ?_⟩
  refine h.rest hlow hg _ _ (.inr rfl) ((other (by omega)).trans ((cells_at (hb _ (by omega)) _).trans h.sS)) (h.rS.kept hg (apart h.rS h.rC (by decide))) (by simpa using World.cell?_setCell_same _ _ _ c10) (by simpa using hr) fun k c' hk => ?_
  rcases Nat.lt_trichotomy k cs.length with hkl | hkl | hkl
  · rw [List.getElem?_append_left hkl] at hk
    obtain ⟨v, h1, h2⟩ := h.rv k c' hk
    exact ⟨v, by rw [List.getElem?_append_left (by omega)]; exact h1, h2.kept hg (apart h2 h.rC (by decide))⟩
  · subst hkl
    simp at hk
    subst hk
    exact ⟨_, by rw [← hcv]; simp, row_base (hK.kept hg (apart hK h.rC (by decide))) hbase⟩
  · rw [List.getElem?_eq_none (by simp; omega)] at hk; cases hk

/-- another row grew -/
theorem Tw.grow (h : Tw H n nd b cnt idx low on st cs aS cS aC cC cv W) {w' : World} {r : Option Nat} (hg : W.grownBy w' r) (hr : ∀ k, r = some k → H + 13 ≤ k) (hS : (Value.slice aS st.length cS).ownBlock = none ∨ (Value.slice aS st.length cS).ownBlock ≠ r) (hC : (Value.slice aC cs.length cC).ownBlock = none ∨ (Value.slice aC cs.length cC).ownBlock ≠ r)
    (hv : ∀ (k : Nat) (v : Value), cv[k]? = some v → v.ownBlock = none ∨ v.ownBlock ≠ r) : Tw H n nd b cnt idx low on st cs aS cS aC cC cv w' := by
  have hs := h.sz
  have hb : ∀ j, j < H + 13 → w'.heap[j]? = W.heap[j]? := fun j hj => hg.block j (by omega) (fun e => by have := hr j e.symm; omega)
  refine ⟨hg.os.trans h.os, hg.tape.trans h.tape, hg.output.trans h.output, by have := hg.size; omega, fun j h1 h2 h3 h4 h5 h6 h7 => (hb j h1).trans (h.same j h1 h2 h3 h4 h5 h6 h7), fun j h1 h2 o => by rw [frozen_at (hb j (by omega))]; exact h.fr j h1 h2 o, ?_, fun j hj => ?_, fun j hj => ?_, fun j hj => ?_, ?_, h.rS.kept hg hS, ?_, h.rC.kept hg hC, fun k c hk => ?_⟩
  · rw [cells_at (hb _ (by omega))]; exact h.ct
  · rw [cells_at (hb _ (by omega))]; exact h.ix j hj
  · rw [cells_at (hb _ (by omega))]; exact h.lw j hj
  · rw [cells_at (hb _ (by omega))]; exact h.on j hj
  · rw [cells_at (hb _ (by omega))]; exact h.sS
  · rw [cells_at (hb _ (by omega))]; exact h.sC
  · obtain ⟨v, h1, h2⟩ := h.rv k c hk; exact ⟨v, h1, h2.kept hg (hv k v h1)⟩

theorem row_put {W : World} {base : Nat} {e : TypeId} {size m : Nat} {v : Value} {xs : List Value} (h : W.ownsRow base e size v m xs) {B o : Nat} {u : Value} (hB : B < base) : (W.setCell ⟨B, o, none⟩ u).ownsRow base e size v m xs := by
  refine h.kept (put_grown _ _ _ _) ?_
  cases hv : v.ownBlock with
  | none => exact .inl rfl
  | some k => have := (h.lt k hv).1; exact .inr (by simp; omega)

/-- the rows of the components lie below the heap's end -/
theorem Tw.lt (h : Tw H n nd b cnt idx low on st cs aS cS aC cC cv W) (k : Nat) (v : Value) (hk : cv[k]? = some v) (q : Nat) (hq : v.ownBlock = some q) : q < W.heap.size := by
  have h1 := (List.getElem?_eq_some_iff.1 hk).1
  have h2 := h.rC.1
  obtain ⟨u, e1, e2⟩ := h.rv k (cs[k]'(by omega)) (List.getElem?_eq_getElem (by omega))
  rw [hk] at e1; cases e1
  exact (e2.lt q hq).2
end
end Go.Proofs.Ybulkboyu.scc
