import Derived.Test.YbulkbpakSet
namespace Go.Proofs.Ybulkbpak.ex
open Go.ChangeShapes Go.WideShapes Go.ChangeAt Go.RowKit

def str (l : List UInt8) : ByteArray := ⟨l.toArray⟩
theorem str_size (l : List UInt8) : (str l).size = l.length := by simp [str, ByteArray.size]
theorem str_list (l : List UInt8) : (str l).data.toList = l := by simp [str]

/-- the search behind k rounds of coverAll; w0: the world at its start. -/
structure Cov (w0 : World) (S C L wd : Nat) (ps : Nat → List UInt8) (f : List UInt8 → List UInt8) (k : Nat) (w : World) : Prop where
  os : w.os = w0.os
  tape : w.tape = w0.tape
  output : w.output = w0.output
  size : w0.heap.size ≤ w.heap.size
  oth : ∀ b, b < w0.heap.size → b ≠ S → b ≠ C → w.heap[b]? = w0.heap[b]?
  row : ∀ j, j < L → w.cell? ⟨C, j, none⟩ = some (.string (str (if j < k then f (ps j) else ps j)))
  frC : ∀ o, w.frozen? ⟨C, o, none⟩ = false
  frS : ∀ o, w.frozen? ⟨S, o, none⟩ = false
  c2 : w.cell? ⟨S, 2, none⟩ = some (.int .i64 wd)
  c4 : w.cell? ⟨S, 4, none⟩ = some (.slice (some ⟨C, 0, none⟩) L L)
  c5 : w.cell? ⟨S, 5, none⟩ = some (.slice none 0 0) ∨ ∃ g cap xs, w.cell? ⟨S, 5, none⟩ = some (.slice (some ⟨g, 0, none⟩) xs.length cap) ∧ BR w w0.heap.size g cap xs

theorem BR.cutAll {w : World} {B g cap : Nat} {xs : List UInt8} (h : BR w B g cap xs) : BR w B g cap [] :=
  ⟨h.lo, h.hi, Nat.zero_le _, h.cm, h.there, h.fr, fun j hj => by simp at hj⟩

/-- the search once buf has been filled anew and stored: its world is a variable. -/
structure Mid (w0 : World) (S C L wd : Nat) (ps : Nat → List UInt8) (f : List UInt8 → List UInt8) (k g cap : Nat) (xs : List UInt8) (w : World) : Prop where
  os : w.os = w0.os
  tape : w.tape = w0.tape
  output : w.output = w0.output
  size : w0.heap.size ≤ w.heap.size
  oth : ∀ b, b < w0.heap.size → b ≠ S → b ≠ C → w.heap[b]? = w0.heap[b]?
  row : ∀ j, j < L → w.cell? ⟨C, j, none⟩ = some (.string (str (if j < k then f (ps j) else ps j)))
  frC : ∀ o, w.frozen? ⟨C, o, none⟩ = false
  frS : ∀ o, w.frozen? ⟨S, o, none⟩ = false
  c2 : w.cell? ⟨S, 2, none⟩ = some (.int .i64 wd)
  c4 : w.cell? ⟨S, 4, none⟩ = some (.slice (some ⟨C, 0, none⟩) L L)
  c5 : w.cell? ⟨S, 5, none⟩ = some (.slice (some ⟨g, 0, none⟩) xs.length cap)
  br : BR w w0.heap.size g cap xs

section
variable {w0 : World} {S C L wd : Nat} {ps : Nat → List UInt8} {f : List UInt8 → List UInt8} {k : Nat}

/-- behind the append and the store of buf -/
theorem Cov.mid {w w1 : World} (h : Cov w0 S C L wd ps f k w) (hS : S < w0.heap.size) (hC : C < w0.heap.size) (hSC : S ≠ C) {r : Option Nat} (hr : ∀ b, r = some b → w0.heap.size ≤ b) {g cap : Nat} {xs : List UInt8} (hbr : BR w1 w0.heap.size g cap xs) (hg : w.grownBy w1 r) :
    Mid w0 S C L wd ps f k g cap xs (w1.setCell ⟨S, 5, none⟩ (.slice (some ⟨g, 0, none⟩) xs.length cap)) := by
  have hsz := h.size
  have keep : ∀ b, b < w0.heap.size → w1.heap[b]? = w.heap[b]? := fun b hb => hg.block b (by omega) (fun e => by have := hr b e.symm; omega)
  have hlo := hbr.lo
  have cS : ∀ o, w1.cell? ⟨S, o, none⟩ = w.cell? ⟨S, o, none⟩ := fun o => World.cell?_of_block (a := ⟨S, o, none⟩) (keep S hS)
  have cC : ∀ o, w1.cell? ⟨C, o, none⟩ = w.cell? ⟨C, o, none⟩ := fun o => World.cell?_of_block (a := ⟨C, o, none⟩) (keep C hC)
  have ot : ∀ (b o : Nat) v, (S ≠ b ∨ (5 : Nat) ≠ o) → (w1.setCell ⟨S, 5, none⟩ v).cell? ⟨b, o, none⟩ = w1.cell? ⟨b, o, none⟩ := fun b o v hne =>
    World.cell?_setCell_other _ _ _ _ (by intro e; cases e; rcases hne with h | h <;> exact h rfl)
  have h5 : ∃ u, w1.cell? ⟨S, 5, none⟩ = some u := by
    rw [cS]; rcases h.c5 with h | ⟨g, c, x, h, _⟩ <;> exact ⟨_, h⟩
  obtain ⟨u, hu⟩ := h5
  constructor
  case os => exact hg.os.trans h.os
  case tape => exact hg.tape.trans h.tape
  case output => exact hg.output.trans h.output
  case size => rw [World.size_setCell]; exact Nat.le_trans hsz hg.size
  case oth => intro b hb h1 h2; rw [Below.heap_setCell _ _ _ _ h1, keep b hb]; exact h.oth b hb h1 h2
  case row => intro j hj; rw [ot C j _ (.inl hSC), cC]; exact h.row j hj
  case frC => intro o; rw [World.frozen?_setCell, World.frozen?_of_block (a := ⟨C, o, none⟩) (keep C hC)]; exact h.frC o
  case frS => intro o; rw [World.frozen?_setCell, World.frozen?_of_block (a := ⟨S, o, none⟩) (keep S hS)]; exact h.frS o
  case c2 => rw [ot S 2 _ (.inr (by decide)), cS]; exact h.c2
  case c4 => rw [ot S 4 _ (.inr (by decide)), cS]; exact h.c4
  case c5 => exact World.cell?_setCell_same _ _ _ hu
  case br => exact hbr.kept (by rw [World.size_setCell]; exact Nat.le_refl _) (Below.heap_setCell _ _ _ _ (by show g ≠ S; omega))

/-- behind a call that writes buf's own row alone -/
theorem Mid.wrote {w w1 : World} {g cap : Nat} {xs ys : List UInt8} (h : Mid w0 S C L wd ps f k g cap xs w) (hS : S < w0.heap.size) (hC : C < w0.heap.size) (hbr : BR w1 w0.heap.size g cap ys) (hl : ys.length = xs.length) (hg : w.grownBy w1 (some g)) :
    Mid w0 S C L wd ps f k g cap ys w1 := by
  have hsz := h.size
  have hlo := hbr.lo
  have keep : ∀ b, b < w0.heap.size → w1.heap[b]? = w.heap[b]? := fun b hb => hg.block b (by omega) (fun e => by cases e; omega)
  have cS : ∀ o, w1.cell? ⟨S, o, none⟩ = w.cell? ⟨S, o, none⟩ := fun o => World.cell?_of_block (a := ⟨S, o, none⟩) (keep S hS)
  have cC : ∀ o, w1.cell? ⟨C, o, none⟩ = w.cell? ⟨C, o, none⟩ := fun o => World.cell?_of_block (a := ⟨C, o, none⟩) (keep C hC)
  constructor
  case os => exact hg.os.trans h.os
  case tape => exact hg.tape.trans h.tape
  case output => exact hg.output.trans h.output
  case size => exact Nat.le_trans hsz hg.size
  case oth => intro b hb h1 h2; rw [keep b hb]; exact h.oth b hb h1 h2
  case row => intro j hj; rw [cC]; exact h.row j hj
  case frC => intro o; rw [World.frozen?_of_block (a := ⟨C, o, none⟩) (keep C hC)]; exact h.frC o
  case frS => intro o; rw [World.frozen?_of_block (a := ⟨S, o, none⟩) (keep S hS)]; exact h.frS o
  case c2 => rw [cS]; exact h.c2
  case c4 => rw [cS]; exact h.c4
  case c5 => rw [cS, h.c5, hl]
  case br => exact hbr

/-- behind the store into configs -/
theorem Mid.next {w : World} {g cap : Nat} (h : Mid w0 S C L wd ps f k g cap (f (ps k)) w) (hC : C < w0.heap.size) (hSC : S ≠ C) (hk : k < L) (n : Nat) :
    Cov w0 S C L wd ps f (k + 1) ((w.setCell ⟨C, k, none⟩ (.string (str (f (ps k))))).drewN n) := by
  have hlo := h.br.lo
  have ot : ∀ (b o : Nat) v, (C ≠ b ∨ k ≠ o) → (w.setCell ⟨C, k, none⟩ v).cell? ⟨b, o, none⟩ = w.cell? ⟨b, o, none⟩ := fun b o v hne =>
    World.cell?_setCell_other _ _ _ _ (by intro e; cases e; rcases hne with h | h <;> exact h rfl)
  constructor
  case os => exact h.os
  case tape => exact h.tape
  case output => exact h.output
  case size => show _ ≤ (w.setCell _ _).heap.size; rw [World.size_setCell]; exact h.size
  case oth => intro b hb h1 h2; show (w.setCell _ _).heap[b]? = _; rw [Below.heap_setCell _ _ _ _ h2]; exact h.oth b hb h1 h2
  case row =>
    intro j hj
    show (w.setCell _ _).cell? _ = _
    by_cases e : j = k
    · subst e
      rw [World.cell?_setCell_same _ _ _ (h.row j hj), if_pos (by omega)]
    · rw [ot C j _ (.inr (fun e' => e e'.symm)), h.row j hj]
      by_cases e2 : j < k
      · rw [if_pos e2, if_pos (by omega)]
      · rw [if_neg e2, if_neg (by omega)]
  case frC => intro o; show (w.setCell _ _).frozen? _ = _; rw [World.frozen?_setCell]; exact h.frC o
  case frS => intro o; show (w.setCell _ _).frozen? _ = _; rw [World.frozen?_setCell]; exact h.frS o
  case c2 => show (w.setCell _ _).cell? _ = _; rw [ot S 2 _ (.inl (Ne.symm hSC))]; exact h.c2
  case c4 => show (w.setCell _ _).cell? _ = _; rw [ot S 4 _ (.inl (Ne.symm hSC))]; exact h.c4
  case c5 =>
    refine .inr ⟨g, cap, f (ps k), ?_, ?_⟩
    · show (w.setCell _ _).cell? _ = _; rw [ot S 5 _ (.inl (Ne.symm hSC))]; exact h.c5
    · refine BR.drewN (h.br.kept (by rw [World.size_setCell]; exact Nat.le_refl _) (Below.heap_setCell _ _ _ _ (by show g ≠ C; omega))) n
end
end Go.Proofs.Ybulkbpak.ex
