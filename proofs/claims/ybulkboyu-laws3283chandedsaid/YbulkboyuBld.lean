import Derived.Test.YbulkboyuMake
/-! The memory that the law lays before it calls 'handed'. -/
namespace Go.Proofs.Ybulkboyu.handed
open Go.RowKit

structure Bld (B : Nat) (w0 : World) (e : Nat → Nat) (lf : Nat → Bool) (s : Nat → Nat × Nat) (dl : Nat → Bool) (c p k : Nat) (W : World) : Prop where
  size : W.heap.size = B + 14 + 8 * k
  grown : Grown w0 W
  e_ : ∀ j, j < 3 → W.cell? ⟨B, j, none⟩ = some (.int .u64 (e j))
  l_ : ∀ j, j < 3 → W.cell? ⟨B + 1, j, none⟩ = some (.bool (lf j))
  lo_ : ∀ j, j < 3 → W.cell? ⟨B + 2, j, none⟩ = some (.int .u64 ((s j).1 : Nat))
  hi_ : ∀ j, j < 3 → W.cell? ⟨B + 3, j, none⟩ = some (.int .u64 ((s j).2 : Nat))
  dl_ : ∀ j, j < 3 → W.cell? ⟨B + 4, j, none⟩ = some (.bool (dl j))
  pa : W.cell? ⟨B + 11, 0, none⟩ = some (.pointer (some ⟨B + 10, 0, none⟩))
  pp : W.cell? ⟨B + 10, 1, none⟩ = some (.slice (some ⟨B + 5, 0, none⟩) 3 3)
  pf : W.cell? ⟨B + 5, c, none⟩ = some (.pointer (some ⟨B + 9, 0, none⟩))
  pq : W.cell? ⟨B + 9, 1, none⟩ = some (.int .i64 p)
  t : ∀ j, j < 3 → W.cell? ⟨B + 12, j, none⟩ = some (if j < k then .slice (some ⟨B + 14 + 8 * j, 0, none⟩) 3 3 else .slice none 0 0)
  d : ∀ j, j < 3 → W.cell? ⟨B + 13, j * 2, none⟩ = some (if j < k then .slice (some ⟨B + 14 + 8 * j + 7, 0, none⟩) 2 2 else .slice none 0 0)
  f : ∀ j, j < 3 → W.cell? ⟨B + 13, j * 2 + 1, none⟩ = some (.bool (if j < k then dl j else false))
  r : ∀ j g, j < k → g < 3 → W.cell? ⟨B + 14 + 8 * j, g, none⟩ = some (.slice (some ⟨B + 14 + 8 * j + 2 + 2 * g, 0, none⟩) 1 1)
  ra : ∀ j g, j < k → g < 3 → W.cell? ⟨B + 14 + 8 * j + 2 + 2 * g, 0, none⟩ = some (.slice (some ⟨B + 14 + 8 * j + 1 + 2 * g, 0, none⟩) 1 1)
  rl : ∀ j g, j < k → g < 3 → W.cell? ⟨B + 14 + 8 * j + 2 + 2 * g, 1, none⟩ = some (.bool (if g = c then lf j else !lf j))
  rx : ∀ j g, j < k → g < 3 → W.cell? ⟨B + 14 + 8 * j + 1 + 2 * g, 0, none⟩ = some (.int .u64 ((if g = c then e j else 18446744073709551615 - e j : Nat)))
  dlo : ∀ j, j < k → W.cell? ⟨B + 14 + 8 * j + 7, 0, none⟩ = some (.int .u64 ((s j).1 : Nat))
  dhi : ∀ j, j < k → W.cell? ⟨B + 14 + 8 * j + 7, 1, none⟩ = some (.int .u64 ((s j).2 : Nat))

theorem fresh_frozen {w W : World} (h : Grown w W) (b o : Nat) (hb : w.heap.size ≤ b) : W.frozen? ⟨b, o, none⟩ = false := by
  rw [h.2.1]
  have : w.heap[b]? = none := by simp; omega
  simp [World.frozen?, this]
end Go.Proofs.Ybulkboyu.handed
