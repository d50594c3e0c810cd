import Derived.Test.YbulkboyuBldStep
/-! The memory behind the call of 'handed'. -/
namespace Go.Proofs.Ybulkboyu.handed
open Go.RowKit

structure Fin (B : Nat) (w0 : World) (e : Nat → Nat) (lf : Nat → Bool) (s s' : Nat → Nat × Nat) (dl : Nat → Bool) (c : Nat) (W : World) : Prop where
  grown : Grown w0 W
  e_ : ∀ j, j < 3 → W.cell? ⟨B, j, none⟩ = some (.int .u64 (e j))
  l_ : ∀ j, j < 3 → W.cell? ⟨B + 1, j, none⟩ = some (.bool (lf j))
  lo_ : ∀ j, j < 3 → W.cell? ⟨B + 2, j, none⟩ = some (.int .u64 ((s j).1 : Nat))
  hi_ : ∀ j, j < 3 → W.cell? ⟨B + 3, j, none⟩ = some (.int .u64 ((s j).2 : Nat))
  dl_ : ∀ j, j < 3 → W.cell? ⟨B + 4, j, none⟩ = some (.bool (dl j))
  t : ∀ j, j < 3 → W.cell? ⟨B + 12, j, none⟩ = some (.slice (some ⟨B + 14 + 8 * j, 0, none⟩) 3 3)
  d : ∀ j, j < 3 → W.cell? ⟨B + 13, j * 2, none⟩ = some (.slice (some ⟨B + 14 + 8 * j + 7, 0, none⟩) 2 2)
  f : ∀ j, j < 3 → W.cell? ⟨B + 13, j * 2 + 1, none⟩ = some (.bool (dl j || lf j))
  r : ∀ j g, j < 3 → g < 3 → W.cell? ⟨B + 14 + 8 * j, g, none⟩ = some (.slice (some ⟨B + 14 + 8 * j + 2 + 2 * g, 0, none⟩) 1 1)
  ra : ∀ j g, j < 3 → g < 3 → W.cell? ⟨B + 14 + 8 * j + 2 + 2 * g, 0, none⟩ = some (.slice (some ⟨B + 14 + 8 * j + 1 + 2 * g, 0, none⟩) 1 1)
  rl : ∀ j g, j < 3 → g < 3 → W.cell? ⟨B + 14 + 8 * j + 2 + 2 * g, 1, none⟩ = some (.bool (if g = c then lf j else !lf j))
  rx : ∀ j g, j < 3 → g < 3 → W.cell? ⟨B + 14 + 8 * j + 1 + 2 * g, 0, none⟩ = some (.int .u64 ((if g = c then e j else 18446744073709551615 - e j : Nat)))
  dlo : ∀ j, j < 3 → W.cell? ⟨B + 14 + 8 * j + 7, 0, none⟩ = some (.int .u64 ((s' j).1 : Nat))
  dhi : ∀ j, j < 3 → W.cell? ⟨B + 14 + 8 * j + 7, 1, none⟩ = some (.int .u64 ((s' j).2 : Nat))

theorem Bld.fin {w0 W W' : World} {e : Nat → Nat} {lf : Nat → Bool} {s : Nat → Nat × Nat} {dl : Nat → Bool} {c p q f N : Nat} (h : Bld w0.heap.size w0 e lf s dl c p 3 W)
    (m : Mem w0.heap.size (w0.heap.size + 13) (w0.heap.size + 14) W (sAt e q f N s 3 0) (dAt lf dl 3) W') : Fin w0.heap.size w0 e lf s (fun j => gath (e j) q f (s j) N) dl c W' := by
  have oth : ∀ b o, b ≠ w0.heap.size + 13 → (∀ i, i < 3 → b ≠ w0.heap.size + 14 + 8 * i + 7) → W'.cell? ⟨b, o, none⟩ = W.cell? ⟨b, o, none⟩ := fun b o h1 h2 => m.oth ⟨b, o, none⟩ h1 h2
  constructor
  case grown =>
    obtain ⟨k1, k2, k3⟩ := h.grown.1
    exact ⟨⟨m.bel.os.trans k1, m.bel.output.trans k2, fun i hi => by rw [m.bel.block i hi]; exact k3 i hi⟩, fun a => (m.frz a).trans (h.grown.2.1 a), Nat.le_trans h.grown.2.2 m.bel.size⟩
  case e_ => intro j hj; rw [oth _ _ (by omega) (fun _ _ => by omega)]; exact h.e_ j hj
  case l_ => intro j hj; rw [oth _ _ (by omega) (fun _ _ => by omega)]; exact h.l_ j hj
  case lo_ => intro j hj; rw [oth _ _ (by omega) (fun _ _ => by omega)]; exact h.lo_ j hj
  case hi_ => intro j hj; rw [oth _ _ (by omega) (fun _ _ => by omega)]; exact h.hi_ j hj
  case dl_ => intro j hj; rw [oth _ _ (by omega) (fun _ _ => by omega)]; exact h.dl_ j hj
  case t => intro j hj; rw [oth _ _ (by omega) (fun _ _ => by omega), h.t j hj, if_pos hj]
  case d => intro j hj; exact m.at_ j hj
  case f => intro j hj; rw [m.fl j hj]; simp [dAt, hj]
  case r => intro j g hj hg; rw [oth _ _ (by omega) (fun _ _ => by omega)]; exact h.r j g hj hg
  case ra => intro j g hj hg; rw [oth _ _ (by omega) (fun _ _ => by omega)]; exact h.ra j g hj hg
  case rl => intro j g hj hg; rw [oth _ _ (by omega) (fun _ _ => by omega)]; exact h.rl j g hj hg
  case rx => intro j g hj hg; rw [oth _ _ (by omega) (fun _ _ => by omega)]; exact h.rx j g hj hg
  case dlo => intro j hj; rw [m.lo j hj]; simp [sAt, hj]
  case dhi => intro j hj; rw [m.hi j hj]; simp [sAt, hj]
end Go.Proofs.Ybulkboyu.handed
