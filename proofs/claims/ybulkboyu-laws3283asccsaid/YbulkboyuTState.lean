import Derived.Test.YbulkboyuTMap
import Derived.Deep.Draws
namespace Go.Proofs.Ybulkboyu.scc
open Go.ChangeShapes Go.WideShapes Go.ChangeAt Go.RowKit

theorem info3 : (Yba.prog.info? 3).map (fun i => (i.zero, i.size, i.bytes)) = some (some (.int .i64 0), 1, 8) := by kernel_rfl
theorem info24 : (Yba.prog.info? 24).map (fun i => (i.zero, i.size, i.bytes)) = some (some (.slice none 0 0), 1, 24) := by kernel_rfl
theorem info28 : (Yba.prog.info? 28).map (fun i => (i.zero, i.size, i.bytes)) = some (some (.pointer none), 1, 8) := by kernel_rfl

/-- A LAW AT THE OPERATION: append, by its run. -/
theorem wpList_append_run {P : Program} {w : World} {ops : Array Oper} {rest : List Oper} {o : Oper} {a : Act} {Q : Exit → Act → World → Prop} (hgd : o.guard = none) (s x : Operand) (t tx : TypeId)
    (ho : o.op = .call { callee := .builtin .append, args := #[s, x], argTypes := #[t, tx] }) (vs vx : Value) (hs : a.eval s = vs) (hx : a.eval x = vx) (v' : Value) (w' : World)
    (hr : (Builtin.append_ #[t, tx] o.type #[vs, vx]).run P w = .ok v' w') (h : wpList P ops Q rest (a.put o.dst v') w') : wpList P ops Q (o :: rest) a w :=
  wpList_plain hgd fun _ hK => by
    unfold Oper.wp execOp
    simp only [ho, resolve, invoke, builtin, Sem.run_bind, Sem.run_pure, Result.andThen_ok, List.map_toArray, List.map_cons, List.map_nil, hs, hx, hr]
    exact hK _ _ h

theorem own_succ {W : World} {base : Nat} {e : TypeId} {size : Nat} {v : Value} {k : Nat} {xs : List Value} (h : W.ownsRow base e size v (k + 1) xs) : ∃ g cap, v = .slice (some ⟨g, 0, none⟩) (k + 1) cap := by
  rcases h.2 with ⟨_, h0⟩ | ⟨g, cap, cur, rfl, _⟩
  · omega
  · exact ⟨g, cap, rfl⟩

theorem cells_new (w : World) (cs : Array Value) (t : TypeId) : ∀ j u, cs.toList[j]? = some u → (w.alloc (.cells cs t)).cell? ((⟨w.heap.size, 0, none⟩ : Addr).add j) = some u := by
  intro j u h
  rw [add_plain, World.cell?_alloc_at _ _ _ _ rfl, Nat.zero_add]
  simpa using h

/-- one element appended -/
theorem app1 (w : World) (base : Nat) (t e ty : TypeId) (z : Value) (bytes : Nat) (ht : Yba.prog.underlying t = some (.slice e)) (hinfo : (Yba.prog.info? e).map (fun i => (i.zero, i.size, i.bytes)) = some (some z, 1, bytes)) (hz : z.cells.size = 1) (hby : bytes ≤ 100)
    (ao : Option Addr) (co n : Nat) (xs : List Value) (hown : w.ownsRow base e 1 (.slice ao n co) n xs) (u : Value) (h1 : u.oneCell' = true) (hn : n ≤ 5000) (hb : base ≤ w.heap.size) :
    ∃ g cap w', (Builtin.append_ #[t, t] ty #[.slice ao n co, .slice (some ⟨w.heap.size, 0, none⟩) 1 1]).run Yba.prog (w.alloc (.cells #[u] e)) = .ok (.slice (some ⟨g, 0, none⟩) (n + 1) cap) w' ∧
      w'.ownsRow base e 1 (.slice (some ⟨g, 0, none⟩) (n + 1) cap) (n + 1) (xs ++ [u]) ∧ w.grownBy w' (Value.slice ao n co).ownBlock := by
  obtain ⟨i, hi, hz0, hz1, hz2⟩ := info_parts hinfo
  obtain ⟨v', w', hrun, hown', hg, _, _⟩ := run_append_own_at (P := Yba.prog) (w := w.alloc (.cells #[u] e)) base t ty e i z 1 bytes ht hi hz0 hz1 hz2 hz (by decide) (.slice ao n co) n xs (hown.alloc _) ⟨w.heap.size, 0, none⟩ 1 1 [u] rfl (cells_new w #[u] e) (by simpa using h1)
    (by unfold maxLen; omega) (by have : (n + 1) * bytes ≤ 5001 * 100 := Nat.mul_le_mul (by omega) hby
                                  omega) (by simp; omega)
  obtain ⟨g, cap, rfl⟩ := own_succ hown'
  exact ⟨g, cap, w', hrun, hown', (World.grownBy_alloc w _ _).trans hg⟩

theorem apart {w : World} {base base' e e' size size' n n' : Nat} {v v' : Value} {xs xs' : List Value} (h : w.ownsRow base e size v n xs) (h' : w.ownsRow base' e' size' v' n' xs') (hne : e ≠ e') : v.ownBlock = none ∨ v.ownBlock ≠ v'.ownBlock := by
  rcases h.2 with ⟨rfl, _⟩ | ⟨g, cap, cur, rfl, _, hg, _⟩
  · exact .inl rfl
  · right
    rcases h'.2 with ⟨rfl, _⟩ | ⟨g', cap', cur', rfl, _, hg', _⟩
    · simp [Value.ownBlock]
    · intro h2
      simp [Value.ownBlock] at h2
      subst h2
      rw [hg] at hg'
      simp at hg'
      exact hne hg'.2

theorem row_facts {w : World} {base : Nat} {e : TypeId} {size n g cap : Nat} {xs : List Value} (h : w.ownsRow base e size (.slice (some ⟨g, 0, none⟩) n cap) n xs) : base ≤ g ∧ g < w.heap.size ∧ n ≤ cap ∧ cap ≤ maxLen ∧ ∀ (i : Nat) v, xs[i]? = some v → w.cell? ⟨g, i, none⟩ = some v := by
  rcases h.2 with ⟨h1, _⟩ | ⟨g', cap', cur, h1, h2, h3, h4, h5, h6, h7⟩
  · cases h1
  · cases h1
    refine ⟨h2, (Array.getElem?_eq_some_iff.1 h3).1, h4, h5, fun i v hv => ?_⟩
    have hlt := (List.getElem?_eq_some_iff.1 hv).1
    rw [← h7] at hv hlt
    rw [List.getElem?_take] at hv
    split at hv
    · simp [World.cell?, h3]; simpa using hv
    · cases hv

/-- the last element goes -/
theorem row_pop {w : World} {base : Nat} {e : TypeId} {g n cap : Nat} {xs : List Value} {u : Value} (h : w.ownsRow base e 1 (.slice (some ⟨g, 0, none⟩) (n + 1) cap) (n + 1) (xs ++ [u])) : w.ownsRow base e 1 (.slice (some ⟨g, 0, none⟩) n cap) n xs := by
  have h0 := h.1
  simp at h0
  refine ⟨by simp; exact h0, ?_⟩
  rcases h.2 with ⟨h1, _⟩ | ⟨g', cap', cur, h1, h2, h3, h4, h5, h6, h7⟩
  · cases h1
  · cases h1
    refine .inr ⟨g, cap, cur, rfl, h2, h3, by omega, h5, h6, ?_⟩
    have : (cur.toList.take ((n + 1) * 1)).take n = xs := by rw [h7, List.take_left' (by omega)]
    rw [List.take_take] at this
    simpa using this

theorem cells_at {W W' : World} {g : Nat} (h : W'.heap[g]? = W.heap[g]?) (o : Nat) : W'.cell? ⟨g, o, none⟩ = W.cell? ⟨g, o, none⟩ := by simp only [World.cell?, h]
theorem frozen_at {W W' : World} {g : Nat} (h : W'.heap[g]? = W.heap[g]?) (o : Nat) : W'.frozen? ⟨g, o, none⟩ = W.frozen? ⟨g, o, none⟩ := by simp only [World.frozen?, h]

abbrev ints (l : List Nat) : List Value := l.map fun (j : Nat) => .int .i64 (j : Int)
abbrev ptrs (nd : Nat → Nat) (l : List Nat) : List Value := l.map fun (j : Nat) => .pointer (some ⟨nd j, 0, none⟩)

def vcap (H : Nat) : Array Value := #[.pointer (some ⟨H + 11, 0, none⟩), .pointer (some ⟨H + 4, 0, none⟩), .pointer (some ⟨H + 6, 0, none⟩), .pointer (some ⟨H + 9, 0, none⟩), .pointer (some ⟨H + 8, 0, none⟩), .pointer (some ⟨H, 0, none⟩), .pointer (some ⟨H + 2, 0, none⟩), .pointer (some ⟨H + 12, 0, none⟩), .pointer (some ⟨H + 10, 0, none⟩)]

/-- what the visits read and never write -/
structure Lay (H n gn : Nat) (nd : Nat → Nat) (eb : Nat → Option Addr) (el : Nat → Nat) (tg : Nat → Nat → Int) (b : World) : Prop where
  gnH : gn < H
  c0 : b.cell? ⟨H, 0, none⟩ = some (.slice (some ⟨gn, 0, none⟩) n n)
  nd : ∀ j, j < n → nd j < H ∧ b.cell? ⟨gn, j, none⟩ = some (.pointer (some ⟨nd j, 0, none⟩)) ∧ b.cell? ⟨nd j, 39, none⟩ = some (.slice (eb j) (el j) (el j)) ∧ el j ≤ 4096
  tg : ∀ j, j < n → ∀ k, k < el j → (∃ g, eb j = some ⟨g, 0, none⟩ ∧ g < H ∧ b.cell? ⟨g, k * 3, none⟩ = some (.int .i32 (tg j k)) ∧ b.cell? ⟨g, k * 3 + 1, none⟩ = some (.int .i32 0) ∧ b.cell? ⟨g, k * 3 + 2, none⟩ = some (.int .i32 (-1))) ∧ (Lit.int .i32 (tg j k)).wf = true
  mp : Mp b (H + 1) n
  c2 : b.cell? ⟨H + 2, 0, none⟩ = some (.map (some (H + 1)))
  c4 : b.cell? ⟨H + 4, 0, none⟩ = some (.slice (some ⟨H + 3, 0, none⟩) n n)
  c6 : b.cell? ⟨H + 6, 0, none⟩ = some (.slice (some ⟨H + 5, 0, none⟩) n n)
  c8 : b.cell? ⟨H + 8, 0, none⟩ = some (.slice (some ⟨H + 7, 0, none⟩) n n)
  c12 : b.cell? ⟨H + 12, 0, none⟩ = some (.func (.func 12) #[] (vcap H))

def Same (H : Nat) (b W : World) : Prop := ∀ j, j < H + 13 → j ≠ H + 3 → j ≠ H + 5 → j ≠ H + 7 → j ≠ H + 9 → j ≠ H + 10 → j ≠ H + 11 → W.heap[j]? = b.heap[j]?

theorem Lay.of {H n gn : Nat} {nd : Nat → Nat} {eb : Nat → Option Addr} {el : Nat → Nat} {tg : Nat → Nat → Int} {b W : World} (h : Lay H n gn nd eb el tg b) (hs : Same H b W) : Lay H n gn nd eb el tg W := by
  have hg := h.gnH
  have hc : ∀ j, j < H + 13 → j ≠ H + 3 → j ≠ H + 5 → j ≠ H + 7 → j ≠ H + 9 → j ≠ H + 10 → j ≠ H + 11 → ∀ o, W.cell? ⟨j, o, none⟩ = b.cell? ⟨j, o, none⟩ := fun j h1 h2 h3 h4 h5 h6 h7 o => cells_at (hs j h1 h2 h3 h4 h5 h6 h7) o
  have hl : ∀ j, j < H → ∀ o, W.cell? ⟨j, o, none⟩ = b.cell? ⟨j, o, none⟩ := fun j hj => hc j (by omega) (by omega) (by omega) (by omega) (by omega) (by omega) (by omega)
  refine ⟨hg, ?_, fun j hj => ?_, fun j hj k hk => ?_, h.mp.block (hs _ (by omega) (by omega) (by omega) (by omega) (by omega) (by omega) (by omega)), ?_, ?_, ?_, ?_, ?_⟩
  · rw [hc H (by omega) (by omega) (by omega) (by omega) (by omega) (by omega) (by omega)]; exact h.c0
  · obtain ⟨h1, h2, h3, h4⟩ := h.nd j hj
    exact ⟨h1, by rw [hl gn hg]; exact h2, by rw [hl _ h1]; exact h3, h4⟩
  · obtain ⟨⟨g, h1, h2, h3, h4, h5⟩, h6⟩ := h.tg j hj k hk
    exact ⟨⟨g, h1, h2, by rw [hl g h2]; exact h3, by rw [hl g h2]; exact h4, by rw [hl g h2]; exact h5⟩, h6⟩
  · rw [hc _ (by omega) (by omega) (by omega) (by omega) (by omega) (by omega) (by omega)]; exact h.c2
  · rw [hc _ (by omega) (by omega) (by omega) (by omega) (by omega) (by omega) (by omega)]; exact h.c4
  · rw [hc _ (by omega) (by omega) (by omega) (by omega) (by omega) (by omega) (by omega)]; exact h.c6
  · rw [hc _ (by omega) (by omega) (by omega) (by omega) (by omega) (by omega) (by omega)]; exact h.c8
  · rw [hc _ (by omega) (by omega) (by omega) (by omega) (by omega) (by omega) (by omega)]; exact h.c12

/-- what the visits write -/
structure Tw (H n : Nat) (nd : Nat → Nat) (b : World) (cnt : Nat) (idx low : Nat → Nat) (on : Nat → Bool) (st : List Nat) (cs : List (List Nat)) (aS : Option Addr) (cS : Nat) (aC : Option Addr) (cC : Nat) (cv : List Value) (W : World) : Prop where
  os : W.os = b.os
  tape : W.tape = b.tape
  output : W.output = b.output
  sz : H + 13 ≤ W.heap.size
  same : Same H b W
  fr : ∀ j, H + 3 ≤ j → j ≤ H + 11 → ∀ o, W.frozen? ⟨j, o, none⟩ = false
  ct : W.cell? ⟨H + 11, 0, none⟩ = some (.int .i64 (cnt : Int))
  ix : ∀ j, j < n → W.cell? ⟨H + 3, j, none⟩ = some (.int .i64 (idx j : Int))
  lw : ∀ j, j < n → W.cell? ⟨H + 5, j, none⟩ = some (.int .i64 (low j : Int))
  on : ∀ j, j < n → W.cell? ⟨H + 7, j, none⟩ = some (.bool (on j))
  sS : W.cell? ⟨H + 9, 0, none⟩ = some (.slice aS st.length cS)
  rS : W.ownsRow (H + 13) 3 1 (.slice aS st.length cS) st.length (ints st.reverse)
  sC : W.cell? ⟨H + 10, 0, none⟩ = some (.slice aC cs.length cC)
  rC : W.ownsRow (H + 13) 24 1 (.slice aC cs.length cC) cs.length cv
  rv : ∀ (k : Nat) (c : List Nat), cs[k]? = some c → ∃ v, cv[k]? = some v ∧ W.ownsRow (H + 13) 28 1 v c.length (ptrs nd c)

section
variable {H n : Nat} {nd : Nat → Nat} {b W : World} {cnt : Nat} {idx low : Nat → Nat} {on : Nat → Bool} {st : List Nat} {cs : List (List Nat)} {aS : Option Addr} {cS : Nat} {aC : Option Addr} {cC : Nat} {cv : List Value}

theorem nb (o : Option Nat) : o = none ∨ o ≠ none := by cases o <;> simp

/-- a world that grew: the rows' blocks and all below H + 13 but one stand -/
theorem Tw.grown (h : Tw H n nd b cnt idx low on st cs aS cS aC cC cv W) {W' : World} (hos : W'.os = W.os) (ht : W'.tape = W.tape) (ho : W'.output = W.output) (hsz : W.heap.size ≤ W'.heap.size) (hb : ∀ j, j < W.heap.size → W'.heap[j]? = W.heap[j]?) : Tw H n nd b cnt idx low on st cs aS cS aC cC cv W' := by
  have hs := h.sz
  have hg : W.grownBy W' none := ⟨hos, ht, ho, hsz, fun i hi _ => hb i hi⟩
  refine ⟨hos.trans h.os, ht.trans h.tape, ho.trans h.output, by omega, fun j h1 h2 h3 h4 h5 h6 h7 => (hb j (by omega)).trans (h.same j h1 h2 h3 h4 h5 h6 h7), fun j h1 h2 o => by rw [frozen_at (hb j (by omega))]; exact h.fr j h1 h2 o, ?_, fun j hj => ?_, fun j hj => ?_, fun j hj => ?_, ?_, h.rS.kept hg (nb _), ?_, h.rC.kept hg (nb _), fun k c hk => ?_⟩
  · rw [cells_at (hb _ (by omega))]; exact h.ct
  · rw [cells_at (hb _ (by omega))]; exact h.ix j hj
  · rw [cells_at (hb _ (by omega))]; exact h.lw j hj
  · rw [cells_at (hb _ (by omega))]; exact h.on j hj
  · rw [cells_at (hb _ (by omega))]; exact h.sS
  · rw [cells_at (hb _ (by omega))]; exact h.sC
  · obtain ⟨v, h1, h2⟩ := h.rv k c hk; exact ⟨v, h1, h2.kept hg (nb _)⟩

theorem Tw.below (h : Tw H n nd b cnt idx low on st cs aS cS aC cC cv W) {W' : World} (hb : Below W.heap.size W W') : Tw H n nd b cnt idx low on st cs aS cS aC cC cv W' :=
  h.grown hb.os hb.tape hb.output hb.size hb.block
theorem Tw.drew (h : Tw H n nd b cnt idx low on st cs aS cS aC cC cv W) : Tw H n nd b cnt idx low on st cs aS cS aC cC cv W.drew := h.grown rfl rfl rfl (Nat.le_refl _) fun _ _ => rfl

theorem put_grown (W : World) (B o : Nat) (v : Value) : W.grownBy (W.setCell ⟨B, o, none⟩ v) (some B) :=
  ⟨rfl, rfl, rfl, Nat.le_of_eq (World.size_setCell W _ _).symm, fun i _ hne => Below.heap_setCell _ _ _ _ (fun e => hne (by rw [e]))⟩
theorem low_block {W : World} {H : Nat} {e : TypeId} {size n : Nat} {v : Value} {xs : List Value} (h : W.ownsRow (H + 13) e size v n xs) {B : Nat} (hB : B < H + 13) : v.ownBlock = none ∨ v.ownBlock ≠ some B := by
  cases hv : v.ownBlock with
  | none => exact .inl rfl
  | some k => have := (h.lt k hv).1; exact .inr (by simp; omega)

/-- one cell of the visits' memory is written -/
theorem Tw.put (h : Tw H n nd b cnt idx low on st cs aS cS aC cC cv W) (B o : Nat) (v : Value) (hB : B = H + 3 ∨ B = H + 5 ∨ B = H + 7 ∨ B = H + 9 ∨ B = H + 10 ∨ B = H + 11) {cnt' : Nat} {idx' low' : Nat → Nat} {on' : Nat → Bool}
    (hct : (W.setCell ⟨B, o, none⟩ v).cell? ⟨H + 11, 0, none⟩ = some (.int .i64 (cnt' : Int))) (hix : ∀ j, j < n → (W.setCell ⟨B, o, none⟩ v).cell? ⟨H + 3, j, none⟩ = some (.int .i64 (idx' j : Int)))
    (hlw : ∀ j, j < n → (W.setCell ⟨B, o, none⟩ v).cell? ⟨H + 5, j, none⟩ = some (.int .i64 (low' j : Int))) (hon : ∀ j, j < n → (W.setCell ⟨B, o, none⟩ v).cell? ⟨H + 7, j, none⟩ = some (.bool (on' j)))
    (h9 : B ≠ H + 9) (h10 : B ≠ H + 10) : Tw H n nd b cnt' idx' low' on' st cs aS cS aC cC cv (W.setCell ⟨B, o, none⟩ v) := by
  have hs := h.sz
  have hne : ∀ j, j ≠ B → (W.setCell ⟨B, o, none⟩ v).heap[j]? = W.heap[j]? := fun j hj => Below.heap_setCell _ _ _ _ hj
  refine ⟨h.os, h.tape, h.output, by rw [World.size_setCell]; exact hs, fun j h1 h2 h3 h4 h5 h6 h7 => (hne j (by omega)).trans (h.same j h1 h2 h3 h4 h5 h6 h7), fun j h1 h2 o => by rw [World.frozen?_setCell]; exact h.fr j h1 h2 o, hct, hix, hlw, hon, ?_, h.rS.kept (put_grown _ _ _ _) (low_block h.rS (by omega)), ?_, h.rC.kept (put_grown _ _ _ _) (low_block h.rC (by omega)), fun k c hk => ?_⟩
  · rw [cells_at (hne _ (fun e => h9 e.symm))]; exact h.sS
  · rw [cells_at (hne _ (fun e => h10 e.symm))]; exact h.sC
  · obtain ⟨u, h1, h2⟩ := h.rv k c hk; exact ⟨u, h1, h2.kept (put_grown _ _ _ _) (low_block h2 (by omega))⟩

theorem other {W : World} {B o B' o' : Nat} {v : Value} (h : B ≠ B') : (W.setCell ⟨B, o, none⟩ v).cell? ⟨B', o', none⟩ = W.cell? ⟨B', o', none⟩ := cells_at (Below.heap_setCell _ _ _ _ (fun e => h e.symm)) _
theorem other_off {W : World} {B o o' : Nat} {v : Value} (h : o ≠ o') : (W.setCell ⟨B, o, none⟩ v).cell? ⟨B, o', none⟩ = W.cell? ⟨B, o', none⟩ := World.cell?_setCell_other _ _ _ _ (fun e => h (by cases e; rfl))

theorem Tw.count (h : Tw H n nd b cnt idx low on st cs aS cS aC cC cv W) (x : Nat) : Tw H n nd b x idx low on st cs aS cS aC cC cv (W.setCell ⟨H + 11, 0, none⟩ (.int .i64 (x : Int))) :=
  h.put _ _ _ (by omega) (World.cell?_setCell_same _ _ _ h.ct) (fun j hj => by rw [other (by omega)]; exact h.ix j hj) (fun j hj => by rw [other (by omega)]; exact h.lw j hj) (fun j hj => by rw [other (by omega)]; exact h.on j hj) (by omega) (by omega)

theorem Tw.index (h : Tw H n nd b cnt idx low on st cs aS cS aC cC cv W) {i : Nat} (hi : i < n) (x : Nat) : Tw H n nd b cnt (setN idx i x) low on st cs aS cS aC cC cv (W.setCell ⟨H + 3, i, none⟩ (.int .i64 (x : Int))) :=
  h.put _ _ _ (by omega) (by rw [other (by omega)]; exact h.ct) (fun j hj => by
    by_cases e : j = i
    · subst e; rw [setN_same]; exact World.cell?_setCell_same _ _ _ (h.ix j hj)
    · rw [setN_ne _ _ e, other_off (fun e' => e e'.symm)]; exact h.ix j hj) (fun j hj => by rw [other (by omega)]; exact h.lw j hj) (fun j hj => by rw [other (by omega)]; exact h.on j hj) (by omega) (by omega)

theorem Tw.lowset (h : Tw H n nd b cnt idx low on st cs aS cS aC cC cv W) {i : Nat} (hi : i < n) (x : Nat) : Tw H n nd b cnt idx (setN low i x) on st cs aS cS aC cC cv (W.setCell ⟨H + 5, i, none⟩ (.int .i64 (x : Int))) :=
  h.put _ _ _ (by omega) (by rw [other (by omega)]; exact h.ct) (fun j hj => by rw [other (by omega)]; exact h.ix j hj) (fun j hj => by
    by_cases e : j = i
    · subst e; rw [setN_same]; exact World.cell?_setCell_same _ _ _ (h.lw j hj)
    · rw [setN_ne _ _ e, other_off (fun e' => e e'.symm)]; exact h.lw j hj) (fun j hj => by rw [other (by omega)]; exact h.on j hj) (by omega) (by omega)

def setB (f : Nat → Bool) (i : Nat) (x : Bool) : Nat → Bool := fun j => if j = i then x else f j

theorem Tw.onset (h : Tw H n nd b cnt idx low on st cs aS cS aC cC cv W) {i : Nat} (hi : i < n) (x : Bool) : Tw H n nd b cnt idx low (setB on i x) st cs aS cS aC cC cv (W.setCell ⟨H + 7, i, none⟩ (.bool x)) :=
  h.put _ _ _ (by omega) (by rw [other (by omega)]; exact h.ct) (fun j hj => by rw [other (by omega)]; exact h.ix j hj) (fun j hj => by rw [other (by omega)]; exact h.lw j hj) (fun j hj => by
    by_cases e : j = i
    · subst e; simp only [setB, if_true]; exact World.cell?_setCell_same _ _ _ (h.on j hj)
    · simp only [setB, if_neg e]; rw [other_off (fun e' => e e'.symm)]; exact h.on j hj) (by omega) (by omega)
end
end Go.Proofs.Ybulkboyu.scc
