import Derived.Test.YbulkboyuFin
import Derived.Laws.BitsAllLaws
namespace Go.Proofs.Ybulkboyu.handed
open Go.RowKit
def pick3 {α : Type} (a b c : α) : Nat → α | 0 => a | 1 => b | _ => c

/-- the memory at round i of the first loop. -/
structure Pre (B : Nat) (w0 : World) (e : Nat → Nat) (lf : Nat → Bool) (s : Nat → Nat × Nat) (dl : Nat → Bool) (i : Nat) (W : World) : Prop where
  size : W.heap.size = B + 6 + i
  grown : Grown w0 W
  e_ : ∀ j, j < 3 → W.cell? ⟨B, j, none⟩ = some (.int .u64 (e j))
  l_ : ∀ j, j < 3 → W.cell? ⟨B + 1, j, none⟩ = some (.bool (lf j))
  lo_ : ∀ j, j < 3 → W.cell? ⟨B + 2, j, none⟩ = some (.int .u64 ((s j).1 : Nat))
  hi_ : ∀ j, j < 3 → W.cell? ⟨B + 3, j, none⟩ = some (.int .u64 ((s j).2 : Nat))
  dl_ : ∀ j, j < 3 → W.cell? ⟨B + 4, j, none⟩ = some (.bool (dl j))
  row : ∀ j, j < 3 → ∃ v, W.cell? ⟨B + 5, j, none⟩ = some v

theorem Pre.step {w0 W : World} {e : Nat → Nat} {lf : Nat → Bool} {s : Nat → Nat × Nat} {dl : Nat → Bool} {i : Nat} (h : Pre w0.heap.size w0 e lf s dl i W) (k : Nat) (u : Value) (A : Array Value) (t : TypeId) :
    Pre w0.heap.size w0 e lf s dl (i + 1) ((W.setCell ⟨w0.heap.size + 5, k, none⟩ u).alloc (.cells A t)) := by
  have hz := h.size
  have old : ∀ b o, b < w0.heap.size + 6 + i → b ≠ w0.heap.size + 5 → ((W.setCell ⟨w0.heap.size + 5, k, none⟩ u).alloc (.cells A t)).cell? ⟨b, o, none⟩ = W.cell? ⟨b, o, none⟩ := by
    intro b o h1 h2
    rw [World.cell?_alloc_past _ _ _ (by rw [World.size_setCell]; omega), other (by left; exact fun e => h2 e.symm)]
  constructor
  case size => rw [World.size_alloc, World.size_setCell]; omega
  case grown => exact (h.grown.setCell (by show w0.heap.size ≤ w0.heap.size + 5; omega) _).alloc _ _
  case e_ => intro j hj; rw [old _ _ (by omega) (by omega)]; exact h.e_ j hj
  case l_ => intro j hj; rw [old _ _ (by omega) (by omega)]; exact h.l_ j hj
  case lo_ => intro j hj; rw [old _ _ (by omega) (by omega)]; exact h.lo_ j hj
  case hi_ => intro j hj; rw [old _ _ (by omega) (by omega)]; exact h.hi_ j hj
  case dl_ => intro j hj; rw [old _ _ (by omega) (by omega)]; exact h.dl_ j hj
  case row =>
    intro j hj
    obtain ⟨v, hv⟩ := h.row j hj
    rw [World.cell?_alloc_past _ _ _ (by rw [World.size_setCell]; omega)]
    by_cases e : j = k
    · subst e; exact ⟨_, World.cell?_setCell_same _ _ _ hv⟩
    · exact ⟨v, (other (by right; show k ≠ j; omega)).trans hv⟩

theorem Pre.bld {w0 W : World} {e : Nat → Nat} {lf : Nat → Bool} {s : Nat → Nat × Nat} {dl : Nat → Bool} {c p : Nat} (h : Pre w0.heap.size w0 e lf s dl 3 W) (hc : c < 3) (F : Array Value) (hF : F[1]? = some (.int .i64 p)) (x0 x1 x2 x3 x4 x5 : Value) :
    Bld w0.heap.size w0 e lf s dl c p 0
      ((((((W.setCell ⟨w0.heap.size + 5, c, none⟩ (.pointer (some ⟨w0.heap.size + 9, 0, none⟩))).alloc (.cells F 58)).alloc (.cells #[x0, .slice (some ⟨w0.heap.size + 5, 0, none⟩) 3 3, x1, x2] 64)).alloc
        (.cells #[.pointer (some ⟨w0.heap.size + 10, 0, none⟩), x3, x4, x5] 68)).alloc (.cells #[.slice none 0 0, .slice none 0 0, .slice none 0 0] 70)).alloc
        (.cells #[.slice none 0 0, .bool false, .slice none 0 0, .bool false, .slice none 0 0, .bool false] 73)) := by
  have h1 := h.step c (.pointer (some ⟨w0.heap.size + 9, 0, none⟩)) F 58
  have hz := h1.size
  obtain ⟨v0, hv0⟩ := h.row c hc
  have hpf : ((W.setCell ⟨w0.heap.size + 5, c, none⟩ (.pointer (some ⟨w0.heap.size + 9, 0, none⟩))).alloc (.cells F 58)).cell? ⟨w0.heap.size + 5, c, none⟩ = some (.pointer (some ⟨w0.heap.size + 9, 0, none⟩)) := by
    rw [World.cell?_alloc_past _ _ _ (by rw [World.size_setCell, h.size]; omega)]
    exact World.cell?_setCell_same _ _ _ hv0
  have hpq : ((W.setCell ⟨w0.heap.size + 5, c, none⟩ (.pointer (some ⟨w0.heap.size + 9, 0, none⟩))).alloc (.cells F 58)).cell? ⟨w0.heap.size + 9, 1, none⟩ = some (.int .i64 p) := by
    rw [World.cell?_alloc_at _ _ _ _ (by rw [World.size_setCell, h.size])]; exact hF
  generalize (W.setCell ⟨w0.heap.size + 5, c, none⟩ (.pointer (some ⟨w0.heap.size + 9, 0, none⟩))).alloc (.cells F 58) = w1 at *
  have old : ∀ b o, b < w0.heap.size + 10 → ∀ o1 o2 o3 o4, ((((w1.alloc o1).alloc o2).alloc o3).alloc o4).cell? ⟨b, o, none⟩ = w1.cell? ⟨b, o, none⟩ := by
    intro b o hb o1 o2 o3 o4
    iterate 4 rw [World.cell?_alloc_past _ _ _ (by (try simp only [World.size_alloc]); omega)]
  constructor
  case size => simp only [World.size_alloc]; omega
  case grown => exact (((h1.grown.alloc _ _).alloc _ _).alloc _ _).alloc _ _
  case e_ => intro j hj; rw [old _ _ (by omega)]; exact h1.e_ j hj
  case l_ => intro j hj; rw [old _ _ (by omega)]; exact h1.l_ j hj
  case lo_ => intro j hj; rw [old _ _ (by omega)]; exact h1.lo_ j hj
  case hi_ => intro j hj; rw [old _ _ (by omega)]; exact h1.hi_ j hj
  case dl_ => intro j hj; rw [old _ _ (by omega)]; exact h1.dl_ j hj
  case pa =>
    iterate 2 rw [World.cell?_alloc_past _ _ _ (by (try simp only [World.size_alloc]); omega)]
    rw [World.cell?_alloc_at _ _ _ _ (by (try simp only [World.size_alloc]); omega)]; rfl
  case pp =>
    iterate 3 rw [World.cell?_alloc_past _ _ _ (by (try simp only [World.size_alloc]); omega)]
    rw [World.cell?_alloc_at _ _ _ _ (by (try simp only [World.size_alloc]); omega)]; rfl
  case pf => rw [old _ _ (by omega)]; exact hpf
  case pq => rw [old _ _ (by omega)]; exact hpq
  case t =>
    intro j hj
    rw [World.cell?_alloc_past _ _ _ (by (try simp only [World.size_alloc]); omega), World.cell?_alloc_at _ _ _ _ (by (try simp only [World.size_alloc]); omega)]
    match j, hj with | 0, _ => rfl | 1, _ => rfl | 2, _ => rfl
  case d =>
    intro j hj
    rw [World.cell?_alloc_at _ _ _ _ (by (try simp only [World.size_alloc]); omega)]
    match j, hj with | 0, _ => rfl | 1, _ => rfl | 2, _ => rfl
  case f =>
    intro j hj
    rw [World.cell?_alloc_at _ _ _ _ (by (try simp only [World.size_alloc]); omega)]
    match j, hj with | 0, _ => rfl | 1, _ => rfl | 2, _ => rfl
  all_goals (intros; omega)

theorem shr_bit (x n : Nat) (hx : x < 18446744073709551616) : (bits .and .u64 ((x : Int) / 2 ^ n) 1 == 1) = x.testBit n := by
  have e : ((x : Int) / 2 ^ n) = ((x / 2 ^ n : Nat) : Int) := by simp
  have hl : x / 2 ^ n < 18446744073709551616 := Nat.lt_of_le_of_lt (Nat.div_le_self _ _) hx
  have e1 : (1 : Int) = ((1 : Nat) : Int) := rfl
  rw [e, e1, u64_and_nat _ _ hl (by decide), nat_mask1, Nat.testBit_eq_decide_div_mod_eq]
  generalize x / 2 ^ n % 2 = z
  rw [Bool.eq_iff_iff]
  simp only [beq_iff_eq, decide_eq_true_eq]
  omega

end Go.Proofs.Ybulkboyu.handed
