import Derived.Test.YbulkboyuP3
namespace Go.Proofs.Ybulkboyu.scc
open Go.ChangeShapes Go.WideShapes Go.ChangeAt Go.RowKit Go.Shelf

theorem info27 : (Yba.prog.info? 27).map (fun i => (i.zero, i.size, i.bytes)) = some (some (.agg #[.int .i32 0, .int .i32 0, .int .i32 0]), 3, 12) := by kernel_rfl
def rep3 (n : Nat) : Array Value := madeCells (Value.agg #[.int .i32 0, .int .i32 0, .int .i32 0]).cells (n * 3)
theorem rep3_at (n j : Nat) (h : j < n * 3) : (rep3 n)[j]? = some (.int .i32 0) := by
  have h3 : j % 3 = 0 ∨ j % 3 = 1 ∨ j % 3 = 2 := by omega
  rcases h3 with e | e | e <;> simp [rep3, madeCells, Value.cells, h, e]

theorem make24 (n : Nat) (hn : n ≤ 5000) (w : World) : (Instr.makeSlice 24 (.int .i64 (n : Int)) (.int .i64 (n : Int))).run Yba.prog w = .ok (.slice (some ⟨w.heap.size, 0, none⟩) n n) (w.alloc (.cells (rep (.pointer none) n) 28)) := by
  obtain ⟨i0, hi, hz0, hz1, hz2⟩ := info_parts info28
  rw [run_makeSlice w 24 28 i0 _ Yba.underlying24 hi hz0 .i64 .i64 n n (by omega) (by omega) (by rw [hz1]; omega) (by rw [hz2]; omega) (by omega), hz1, Nat.mul_one, Int.toNat_natCast]
  rfl
theorem make25 (n : Nat) (hn : n ≤ 5000) (w : World) : (Instr.makeSlice 25 (.int .i64 (n : Int)) (.int .i64 (n : Int))).run Yba.prog w = .ok (.slice (some ⟨w.heap.size, 0, none⟩) n n) (w.alloc (.cells (rep3 n) 27)) := by
  obtain ⟨i0, hi, hz0, hz1, hz2⟩ := info_parts info27
  rw [run_makeSlice w 25 27 i0 _ Yba.underlying25 hi hz0 .i64 .i64 n n (by omega) (by omega) (by rw [hz1]; omega) (by rw [hz2]; omega) (by omega), hz1, Int.toNat_natCast]
  rfl

/-- the edges of one node, m of them written -/
structure Es (B l : Nat) (t : Nat → Int) (m : Nat) (w0 wr : World) : Prop where
  bel : Below B w0 wr
  sz : wr.heap.size = B + 1
  fr : ∀ o, wr.frozen? ⟨B, o, none⟩ = false
  z : ∀ j, j < l * 3 → ∃ v, wr.cell? ⟨B, j, none⟩ = some v
  c : ∀ k, k < m → wr.cell? ⟨B, k * 3, none⟩ = some (.int .i32 (t k)) ∧ wr.cell? ⟨B, k * 3 + 1, none⟩ = some (.int .i32 0) ∧ wr.cell? ⟨B, k * 3 + 2, none⟩ = some (.int .i32 (-1))

theorem es_start (l : Nat) (t : Nat → Int) (w : World) : Es w.heap.size l t 0 w (w.alloc (.cells (rep3 l) 27)) :=
  ⟨(Below.refl _ _).alloc (Nat.le_refl _) _, by simp, fun o => by rw [World.frozen?_alloc_at _ _ _ _ rfl], fun j hj => ⟨_, by rw [World.cell?_alloc_at _ _ _ _ rfl]; exact rep3_at l j hj⟩, fun k hk => by omega⟩

theorem Es.next {B l : Nat} {t : Nat → Int} {m : Nat} {w0 wr : World} (h : Es B l t m w0 wr) (hm : m < l) : Es B l t (m + 1) w0 (((wr.setCell ⟨B, m * 3, none⟩ (.int .i32 (t m))).setCell ⟨B, m * 3 + 1, none⟩ (.int .i32 0)).setCell ⟨B, m * 3 + 2, none⟩ (.int .i32 (-1))) := by
  obtain ⟨v0, h0⟩ := h.z (m * 3) (by omega)
  obtain ⟨v1, h1⟩ := h.z (m * 3 + 1) (by omega)
  obtain ⟨v2, h2⟩ := h.z (m * 3 + 2) (by omega)
  have k0 : (((wr.setCell ⟨B, m * 3, none⟩ (.int .i32 (t m))).setCell ⟨B, m * 3 + 1, none⟩ (.int .i32 0)).setCell ⟨B, m * 3 + 2, none⟩ (.int .i32 (-1))).cell? ⟨B, m * 3, none⟩ = some (.int .i32 (t m)) := by
    rw [other_off (by omega), other_off (by omega)]; exact World.cell?_setCell_same _ _ _ h0
  have k1 : (((wr.setCell ⟨B, m * 3, none⟩ (.int .i32 (t m))).setCell ⟨B, m * 3 + 1, none⟩ (.int .i32 0)).setCell ⟨B, m * 3 + 2, none⟩ (.int .i32 (-1))).cell? ⟨B, m * 3 + 1, none⟩ = some (.int .i32 0) := by
    rw [other_off (by omega)]; exact World.cell?_setCell_same _ _ _ (by rw [other_off (by omega)]; exact h1)
  have k2 : (((wr.setCell ⟨B, m * 3, none⟩ (.int .i32 (t m))).setCell ⟨B, m * 3 + 1, none⟩ (.int .i32 0)).setCell ⟨B, m * 3 + 2, none⟩ (.int .i32 (-1))).cell? ⟨B, m * 3 + 2, none⟩ = some (.int .i32 (-1)) :=
    World.cell?_setCell_same _ _ _ (by rw [other_off (by omega), other_off (by omega)]; exact h2)
  have ko : ∀ j, j ≠ m * 3 → j ≠ m * 3 + 1 → j ≠ m * 3 + 2 → (((wr.setCell ⟨B, m * 3, none⟩ (.int .i32 (t m))).setCell ⟨B, m * 3 + 1, none⟩ (.int .i32 0)).setCell ⟨B, m * 3 + 2, none⟩ (.int .i32 (-1))).cell? ⟨B, j, none⟩ = wr.cell? ⟨B, j, none⟩ := fun j a b c => by
    rw [other_off (by omega), other_off (by omega), other_off (by omega)]
  refine ⟨((h.bel.setCell (Nat.le_refl _) _).setCell (Nat.le_refl _) _).setCell (Nat.le_refl _) _, by simp only [World.size_setCell]; exact h.sz, fun o => by simp only [World.frozen?_setCell]; exact h.fr o, fun j hj => ?_, fun k hk => ?_⟩
  · by_cases e0 : j = m * 3
    · rw [e0]; exact ⟨_, k0⟩
    · by_cases e1 : j = m * 3 + 1
      · rw [e1]; exact ⟨_, k1⟩
      · by_cases e2 : j = m * 3 + 2
        · rw [e2]; exact ⟨_, k2⟩
        · rw [ko j e0 e1 e2]; exact h.z j hj
  · by_cases e : k = m
    · subst e; exact ⟨k0, k1, k2⟩
    · obtain ⟨a, b, c⟩ := h.c k (by omega)
      exact ⟨by rw [ko _ (by omega) (by omega) (by omega)]; exact a, by rw [ko _ (by omega) (by omega) (by omega)]; exact b, by rw [ko _ (by omega) (by omega) (by omega)]; exact c⟩

/-- the nodes, k of them made -/
structure Nk (n : Nat) (el : Nat → Nat) (tg : Nat → Nat → Int) (k : Nat) (W wr : World) : Prop where
  bel : Below W.heap.size W wr
  sz : wr.heap.size = W.heap.size + 1 + 2 * k
  fr : ∀ o, wr.frozen? ⟨W.heap.size, o, none⟩ = false
  z : ∀ j, j < n → ∃ v, wr.cell? ⟨W.heap.size, j, none⟩ = some v
  c : ∀ j, j < k → wr.cell? ⟨W.heap.size, j, none⟩ = some (.pointer (some ⟨W.heap.size + 2 + 2 * j, 0, none⟩)) ∧ wr.cell? ⟨W.heap.size + 2 + 2 * j, 3, none⟩ = some (.int .i64 (j : Int)) ∧ wr.cell? ⟨W.heap.size + 2 + 2 * j, 36, none⟩ = some (.int .i32 (j : Int)) ∧
    wr.cell? ⟨W.heap.size + 2 + 2 * j, 39, none⟩ = some (.slice (some ⟨W.heap.size + 1 + 2 * j, 0, none⟩) (el j) (el j)) ∧ ∀ i, i < el j → wr.cell? ⟨W.heap.size + 1 + 2 * j, i * 3, none⟩ = some (.int .i32 (tg j i)) ∧ wr.cell? ⟨W.heap.size + 1 + 2 * j, i * 3 + 1, none⟩ = some (.int .i32 0) ∧ wr.cell? ⟨W.heap.size + 1 + 2 * j, i * 3 + 2, none⟩ = some (.int .i32 (-1))

theorem nk_start (n : Nat) (el : Nat → Nat) (tg : Nat → Nat → Int) (W : World) : Nk n el tg 0 W (W.alloc (.cells (rep (.pointer none) n) 28)) :=
  ⟨(Below.refl _ _).alloc (Nat.le_refl _) _, by simp, fun o => by rw [World.frozen?_alloc_at _ _ _ _ rfl], fun j hj => ⟨_, by rw [World.cell?_alloc_at _ _ _ _ rfl]; exact rep_at rfl n j hj⟩, fun j hj => by omega⟩

def nodeCells (k l B : Nat) : Array Value := #[.pointer none, .slice none 0 0, .slice none 0 0, .int .i64 (k : Int), .int .u8 0, .int .u8 0, .int .u8 0, .int .u8 0, .int .u8 0, .int .u8 0, .int .u8 0, .int .u8 0, .int .u8 0, .int .u8 0, .int .u8 0, .int .u8 0, .int .u8 0, .int .u8 0, .int .u8 0, .int .u8 0, .int .u8 0, .int .u8 0, .int .u8 0, .int .u8 0, .int .u8 0, .int .u8 0, .int .u8 0, .int .u8 0, .int .u8 0, .int .u8 0, .int .u8 0, .int .u8 0, .int .u8 0, .int .u8 0, .int .u8 0, .int .u8 0,
  .int .i32 (k : Int), .int .i32 0, .slice none 0 0, .slice (some ⟨B, 0, none⟩) l l, .pointer none, .bool false]

theorem Nk.next {n : Nat} {el : Nat → Nat} {tg : Nat → Nat → Int} {k : Nat} {W wq wr : World} (h : Nk n el tg k W wq) (hk : k < n) (he : Es wq.heap.size (el k) (tg k) (el k) wq wr) :
    Nk n el tg (k + 1) W ((wr.alloc (.cells (nodeCells k (el k) wq.heap.size) 36)).setCell ⟨W.heap.size, k, none⟩ (.pointer (some ⟨wr.heap.size, 0, none⟩))) := by
  have h1 := h.sz
  have h2 := he.sz
  have hb : ∀ j, j < wq.heap.size → wr.heap[j]? = wq.heap[j]? := he.bel.block
  have ha : ∀ j, j < wr.heap.size → ∀ o, (wr.alloc (.cells (nodeCells k (el k) wq.heap.size) 36)).cell? ⟨j, o, none⟩ = wr.cell? ⟨j, o, none⟩ := fun j hj o => World.cell?_alloc_past _ _ _ hj
  obtain ⟨v0, hv0⟩ := h.z k hk
  have hnew : ∀ o v, (nodeCells k (el k) wq.heap.size)[o]? = some v → ((wr.alloc (.cells (nodeCells k (el k) wq.heap.size) 36)).setCell ⟨W.heap.size, k, none⟩ (.pointer (some ⟨wr.heap.size, 0, none⟩))).cell? ⟨wr.heap.size, o, none⟩ = some v := fun o v hv => by
    rw [other (by omega), World.cell?_alloc_at _ _ _ _ rfl]; exact hv
  have hc0 : (wr.alloc (.cells (nodeCells k (el k) wq.heap.size) 36)).cell? ⟨W.heap.size, k, none⟩ = some v0 := by rw [ha _ (by omega), cells_at (hb _ (by omega))]; exact hv0
  have hB : Below W.heap.size W wr := h.bel.trans (he.bel.mono (by omega))
  refine ⟨(hB.alloc (by omega) _).setCell (Nat.le_refl _) _, by rw [World.size_setCell]; simp; omega, fun o => ?_, fun j hj => ?_, fun j hj => ?_⟩
  · rw [World.frozen?_setCell, World.frozen?_alloc_past _ _ _ (by show W.heap.size < _; omega), frozen_at (hb _ (by omega))]; exact h.fr o
  · by_cases e : j = k
    · subst e; exact ⟨_, World.cell?_setCell_same _ _ _ hc0⟩
    · obtain ⟨v, hv⟩ := h.z j hj
      exact ⟨v, by rw [other_off (fun e' => e e'.symm), ha _ (by omega), cells_at (hb _ (by omega))]; exact hv⟩
  · by_cases e : j = k
    · subst e
      have e1 : W.heap.size + 2 + 2 * j = wr.heap.size := by omega
      have e2 : W.heap.size + 1 + 2 * j = wq.heap.size := by omega
      rw [e1, e2]
      refine ⟨World.cell?_setCell_same _ _ _ hc0, hnew 3 _ rfl, hnew 36 _ rfl, hnew 39 _ rfl, fun i hi => ?_⟩
      obtain ⟨a, b, c⟩ := he.c i hi
      exact ⟨by rw [other (by omega), ha _ (by omega)]; exact a, by rw [other (by omega), ha _ (by omega)]; exact b, by rw [other (by omega), ha _ (by omega)]; exact c⟩
    · obtain ⟨a, b, c, d, f⟩ := h.c j (by omega)
      have cc : ∀ B o, B ≠ W.heap.size → B < wq.heap.size → ((wr.alloc (.cells (nodeCells k (el k) wq.heap.size) 36)).setCell ⟨W.heap.size, k, none⟩ (.pointer (some ⟨wr.heap.size, 0, none⟩))).cell? ⟨B, o, none⟩ = wq.cell? ⟨B, o, none⟩ := fun B o x1 x2 => by
        rw [other (fun e => x1 e.symm), ha _ (by omega), cells_at (hb _ x2)]
      refine ⟨?_, by rw [cc _ _ (by omega) (by omega)]; exact b, by rw [cc _ _ (by omega) (by omega)]; exact c, by rw [cc _ _ (by omega) (by omega)]; exact d, fun i hi => ?_⟩
      · rw [other_off (fun e' => e e'.symm), ha _ (by omega), cells_at (hb _ (by omega))]; exact a
      · obtain ⟨a', b', c'⟩ := f i hi
        exact ⟨by rw [cc _ _ (by omega) (by omega)]; exact a', by rw [cc _ _ (by omega) (by omega)]; exact b', by rw [cc _ _ (by omega) (by omega)]; exact c'⟩
end Go.Proofs.Ybulkboyu.scc
