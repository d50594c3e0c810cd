import Derived.Test.YbulkboyuBld
namespace Go.Proofs.Ybulkboyu.handed
open Go.RowKit

/-- eight new blocks. -/
def tower (w : World) (a0 a1 a2 a3 a4 a5 a6 a7 : Array Value) : World :=
  (((((((w.alloc (.cells a0 74)).alloc (.cells a1 47)).alloc (.cells a2 72)).alloc (.cells a3 47)).alloc (.cells a4 72)).alloc (.cells a5 47)).alloc (.cells a6 72)).alloc (.cells a7 47)

section
variable (w : World) (a0 a1 a2 a3 a4 a5 a6 a7 : Array Value) (o : Nat)
theorem tower_old (b : Nat) (h : b < w.heap.size) : (tower w a0 a1 a2 a3 a4 a5 a6 a7).cell? ⟨b, o, none⟩ = w.cell? ⟨b, o, none⟩ := by
  unfold tower
  iterate 8 rw [World.cell?_alloc_past _ _ _ (by (try simp only [World.size_alloc]); omega)]
theorem tower0 (b : Nat) (h : b = w.heap.size) : (tower w a0 a1 a2 a3 a4 a5 a6 a7).cell? ⟨b, o, none⟩ = a0[o]? := by
  unfold tower
  iterate 7 rw [World.cell?_alloc_past _ _ _ (by (try simp only [World.size_alloc]); omega)]
  rw [World.cell?_alloc_at _ _ _ _ (by (try simp only [World.size_alloc]); omega)]
theorem tower1 (b : Nat) (h : b = w.heap.size + 1) : (tower w a0 a1 a2 a3 a4 a5 a6 a7).cell? ⟨b, o, none⟩ = a1[o]? := by
  unfold tower
  iterate 6 rw [World.cell?_alloc_past _ _ _ (by (try simp only [World.size_alloc]); omega)]
  rw [World.cell?_alloc_at _ _ _ _ (by (try simp only [World.size_alloc]); omega)]
theorem tower2 (b : Nat) (h : b = w.heap.size + 2) : (tower w a0 a1 a2 a3 a4 a5 a6 a7).cell? ⟨b, o, none⟩ = a2[o]? := by
  unfold tower
  iterate 5 rw [World.cell?_alloc_past _ _ _ (by (try simp only [World.size_alloc]); omega)]
  rw [World.cell?_alloc_at _ _ _ _ (by (try simp only [World.size_alloc]); omega)]
theorem tower3 (b : Nat) (h : b = w.heap.size + 3) : (tower w a0 a1 a2 a3 a4 a5 a6 a7).cell? ⟨b, o, none⟩ = a3[o]? := by
  unfold tower
  iterate 4 rw [World.cell?_alloc_past _ _ _ (by (try simp only [World.size_alloc]); omega)]
  rw [World.cell?_alloc_at _ _ _ _ (by (try simp only [World.size_alloc]); omega)]
theorem tower4 (b : Nat) (h : b = w.heap.size + 4) : (tower w a0 a1 a2 a3 a4 a5 a6 a7).cell? ⟨b, o, none⟩ = a4[o]? := by
  unfold tower
  iterate 3 rw [World.cell?_alloc_past _ _ _ (by (try simp only [World.size_alloc]); omega)]
  rw [World.cell?_alloc_at _ _ _ _ (by (try simp only [World.size_alloc]); omega)]
theorem tower5 (b : Nat) (h : b = w.heap.size + 5) : (tower w a0 a1 a2 a3 a4 a5 a6 a7).cell? ⟨b, o, none⟩ = a5[o]? := by
  unfold tower
  iterate 2 rw [World.cell?_alloc_past _ _ _ (by (try simp only [World.size_alloc]); omega)]
  rw [World.cell?_alloc_at _ _ _ _ (by (try simp only [World.size_alloc]); omega)]
theorem tower6 (b : Nat) (h : b = w.heap.size + 6) : (tower w a0 a1 a2 a3 a4 a5 a6 a7).cell? ⟨b, o, none⟩ = a6[o]? := by
  unfold tower
  rw [World.cell?_alloc_past _ _ _ (by (try simp only [World.size_alloc]); omega)]
  rw [World.cell?_alloc_at _ _ _ _ (by (try simp only [World.size_alloc]); omega)]
theorem tower7 (b : Nat) (h : b = w.heap.size + 7) : (tower w a0 a1 a2 a3 a4 a5 a6 a7).cell? ⟨b, o, none⟩ = a7[o]? := by
  unfold tower
  rw [World.cell?_alloc_at _ _ _ _ (by (try simp only [World.size_alloc]); omega)]
theorem tower_size : (tower w a0 a1 a2 a3 a4 a5 a6 a7).heap.size = w.heap.size + 8 := by
  unfold tower
  simp only [World.size_alloc]
end

theorem not64 (x : Nat) (h : x < 18446744073709551616) : bits .xor .u64 IntKind.u64.max (x : Int) = ((18446744073709551615 - x : Nat) : Int) := by
  have e : IntKind.u64.max = ((18446744073709551615 : Nat) : Int) := by decide
  rw [e, u64_xor_nat _ _ (by decide) h]
  congr 1
  apply Nat.eq_of_testBit_eq
  intro i
  have e2 : (18446744073709551615 : Nat) - x = 2 ^ 64 - (x + 1) := by omega
  have e3 : (18446744073709551615 : Nat) = 2 ^ 64 - 1 := by decide
  rw [e2, Nat.testBit_two_pow_sub_succ (by simpa using h), Nat.testBit_xor, e3, Nat.testBit_two_pow_sub_one]
  by_cases hi : i < 64
  · simp [hi]
  · have : x.testBit i = false := Nat.testBit_lt_two_pow (Nat.lt_of_lt_of_le h (by rw [show (18446744073709551616 : Nat) = 2 ^ 64 by decide]; exact Nat.pow_le_pow_right (by decide) (by omega)))
    simp [hi, this]

theorem Bld.step {w0 W : World} {e : Nat → Nat} {lf : Nat → Bool} {s : Nat → Nat × Nat} {dl : Nat → Bool} {c p k : Nat} (h : Bld w0.heap.size w0 e lf s dl c p k W) (hk : k < 3)
    (x0 x1 x2 : Int) (b0 b1 b2 : Bool)
    (hx0 : x0 = ((if 0 = c then e k else 18446744073709551615 - e k : Nat) : Int)) (hx1 : x1 = ((if 1 = c then e k else 18446744073709551615 - e k : Nat) : Int)) (hx2 : x2 = ((if 2 = c then e k else 18446744073709551615 - e k : Nat) : Int))
    (hb0 : b0 = if 0 = c then lf k else !lf k) (hb1 : b1 = if 1 = c then lf k else !lf k) (hb2 : b2 = if 2 = c then lf k else !lf k) :
    Bld w0.heap.size w0 e lf s dl c p (k + 1)
      (tower (((W.setCell ⟨w0.heap.size + 12, k, none⟩ (.slice (some ⟨W.heap.size, 0, none⟩) 3 3)).setCell ⟨w0.heap.size + 13, k * 2, none⟩ (.slice (some ⟨W.heap.size + 7, 0, none⟩) 2 2)).setCell ⟨w0.heap.size + 13, k * 2 + 1, none⟩ (.bool (dl k)))
        #[.slice (some ⟨W.heap.size + 2, 0, none⟩) 1 1, .slice (some ⟨W.heap.size + 4, 0, none⟩) 1 1, .slice (some ⟨W.heap.size + 6, 0, none⟩) 1 1]
        #[.int .u64 x0] #[.slice (some ⟨W.heap.size + 1, 0, none⟩) 1 1, .bool b0]
        #[.int .u64 x1] #[.slice (some ⟨W.heap.size + 3, 0, none⟩) 1 1, .bool b1]
        #[.int .u64 x2] #[.slice (some ⟨W.heap.size + 5, 0, none⟩) 1 1, .bool b2]
        #[.int .u64 ((s k).1 : Nat), .int .u64 ((s k).2 : Nat)]).drew := by
  have hz := h.size
  subst hx0 hx1 hx2 hb0 hb1 hb2
  generalize hV : W.heap.size = V at *
  generalize hw1 : ((W.setCell ⟨w0.heap.size + 12, k, none⟩ (.slice (some ⟨V, 0, none⟩) 3 3)).setCell ⟨w0.heap.size + 13, k * 2, none⟩ (.slice (some ⟨V + 7, 0, none⟩) 2 2)).setCell ⟨w0.heap.size + 13, k * 2 + 1, none⟩ (.bool (dl k)) = w1
  have z1 : w1.heap.size = V := by rw [← hw1, World.size_setCell, World.size_setCell, World.size_setCell, hV]
  have oth : ∀ b o, b ≠ w0.heap.size + 12 → b ≠ w0.heap.size + 13 → w1.cell? ⟨b, o, none⟩ = W.cell? ⟨b, o, none⟩ := by
    intro b o h1 h2
    rw [← hw1, other (by left; exact fun e => h2 e.symm), other (by left; exact fun e => h2 e.symm), other (by left; exact fun e => h1 e.symm)]
  have tT : ∀ j, j < 3 → w1.cell? ⟨w0.heap.size + 12, j, none⟩ = some (if j < k + 1 then .slice (some ⟨w0.heap.size + 14 + 8 * j, 0, none⟩) 3 3 else .slice none 0 0) := by
    intro j hj
    rw [← hw1, other (by left; show w0.heap.size + 13 ≠ w0.heap.size + 12; omega), other (by left; show w0.heap.size + 13 ≠ w0.heap.size + 12; omega)]
    by_cases e1 : j = k
    · subst e1
      rw [World.cell?_setCell_same _ _ _ (h.t j hj), if_pos (by omega), hz]
    · rw [other (by right; show k ≠ j; omega), h.t j hj]
      by_cases e2 : j < k
      · rw [if_pos e2, if_pos (by omega)]
      · rw [if_neg e2, if_neg (by omega)]
  have tD : ∀ j, j < 3 → w1.cell? ⟨w0.heap.size + 13, j * 2, none⟩ = some (if j < k + 1 then .slice (some ⟨w0.heap.size + 14 + 8 * j + 7, 0, none⟩) 2 2 else .slice none 0 0) := by
    intro j hj
    rw [← hw1, other (by right; show k * 2 + 1 ≠ j * 2; omega)]
    by_cases e1 : j = k
    · subst e1
      rw [World.cell?_setCell_same _ _ _ ((other (by left; show w0.heap.size + 12 ≠ w0.heap.size + 13; omega)).trans (h.d j hj)), if_pos (by omega), hz]
    · rw [other (by right; show k * 2 ≠ j * 2; omega), other (by left; show w0.heap.size + 12 ≠ w0.heap.size + 13; omega), h.d j hj]
      by_cases e2 : j < k
      · rw [if_pos e2, if_pos (by omega)]
      · rw [if_neg e2, if_neg (by omega)]
  have tF : ∀ j, j < 3 → w1.cell? ⟨w0.heap.size + 13, j * 2 + 1, none⟩ = some (.bool (if j < k + 1 then dl j else false)) := by
    intro j hj
    rw [← hw1]
    by_cases e1 : j = k
    · subst e1
      rw [World.cell?_setCell_same _ _ _ ((other (by right; show j * 2 ≠ j * 2 + 1; omega)).trans ((other (by left; show w0.heap.size + 12 ≠ w0.heap.size + 13; omega)).trans (h.f j hj))), if_pos (by omega)]
    · rw [other (by right; show k * 2 + 1 ≠ j * 2 + 1; omega), other (by right; show k * 2 ≠ j * 2 + 1; omega), other (by left; show w0.heap.size + 12 ≠ w0.heap.size + 13; omega), h.f j hj]
      by_cases e2 : j < k
      · rw [if_pos e2, if_pos (by omega)]
      · rw [if_neg e2, if_neg (by omega)]
  have g1 : Grown w0 w1 := by
    rw [← hw1]
    exact ((h.grown.setCell (by show w0.heap.size ≤ w0.heap.size + 12; omega) _).setCell (by show w0.heap.size ≤ w0.heap.size + 13; omega) _).setCell (by show w0.heap.size ≤ w0.heap.size + 13; omega) _
  have old : ∀ b o, b < V → b ≠ w0.heap.size + 12 → b ≠ w0.heap.size + 13 → ∀ a0 a1 a2 a3 a4 a5 a6 a7, (tower w1 a0 a1 a2 a3 a4 a5 a6 a7).cell? ⟨b, o, none⟩ = W.cell? ⟨b, o, none⟩ := by
    intro b o h0 h1 h2 _ _ _ _ _ _ _ _
    rw [tower_old _ _ _ _ _ _ _ _ _ _ _ (by omega), oth b o h1 h2]
  constructor
  case size => rw [World.size_drew, tower_size]; omega
  case grown => exact (((((((((g1.alloc _ _).alloc _ _).alloc _ _).alloc _ _).alloc _ _).alloc _ _).alloc _ _).alloc _ _)).drew
  case e_ => intro j hj; rw [World.cell?_drew, old _ _ (by omega) (by omega) (by omega)]; exact h.e_ j hj
  case l_ => intro j hj; rw [World.cell?_drew, old _ _ (by omega) (by omega) (by omega)]; exact h.l_ j hj
  case lo_ => intro j hj; rw [World.cell?_drew, old _ _ (by omega) (by omega) (by omega)]; exact h.lo_ j hj
  case hi_ => intro j hj; rw [World.cell?_drew, old _ _ (by omega) (by omega) (by omega)]; exact h.hi_ j hj
  case dl_ => intro j hj; rw [World.cell?_drew, old _ _ (by omega) (by omega) (by omega)]; exact h.dl_ j hj
  case pa => rw [World.cell?_drew, old _ _ (by omega) (by omega) (by omega)]; exact h.pa
  case pp => rw [World.cell?_drew, old _ _ (by omega) (by omega) (by omega)]; exact h.pp
  case pf => rw [World.cell?_drew, old _ _ (by omega) (by omega) (by omega)]; exact h.pf
  case pq => rw [World.cell?_drew, old _ _ (by omega) (by omega) (by omega)]; exact h.pq
  case t => intro j hj; rw [World.cell?_drew, tower_old _ _ _ _ _ _ _ _ _ _ _ (by omega)]; exact tT j hj
  case d => intro j hj; rw [World.cell?_drew, tower_old _ _ _ _ _ _ _ _ _ _ _ (by omega)]; exact tD j hj
  case f => intro j hj; rw [World.cell?_drew, tower_old _ _ _ _ _ _ _ _ _ _ _ (by omega)]; exact tF j hj
  case r =>
    intro j g hj hg
    rw [World.cell?_drew]
    by_cases e1 : j < k
    · rw [old _ _ (by omega) (by omega) (by omega)]; exact h.r j g e1 hg
    · obtain rfl : j = k := by omega
      rw [tower0 _ _ _ _ _ _ _ _ _ _ _ (by omega)]
      match g, hg with
      | 0, _ => simp [hz]
      | 1, _ => simp [hz]
      | 2, _ => simp [hz]
  case ra =>
    intro j g hj hg
    rw [World.cell?_drew]
    by_cases e1 : j < k
    · rw [old _ _ (by omega) (by omega) (by omega)]; exact h.ra j g e1 hg
    · obtain rfl : j = k := by omega
      match g, hg with
      | 0, _ => rw [tower2 _ _ _ _ _ _ _ _ _ _ _ (by omega)]; simp [hz]
      | 1, _ => rw [tower4 _ _ _ _ _ _ _ _ _ _ _ (by omega)]; simp [hz]
      | 2, _ => rw [tower6 _ _ _ _ _ _ _ _ _ _ _ (by omega)]; simp [hz]
  case rl =>
    intro j g hj hg
    rw [World.cell?_drew]
    by_cases e1 : j < k
    · rw [old _ _ (by omega) (by omega) (by omega)]; exact h.rl j g e1 hg
    · obtain rfl : j = k := by omega
      match g, hg with
      | 0, _ => rw [tower2 _ _ _ _ _ _ _ _ _ _ _ (by omega)]; simp
      | 1, _ => rw [tower4 _ _ _ _ _ _ _ _ _ _ _ (by omega)]; simp
      | 2, _ => rw [tower6 _ _ _ _ _ _ _ _ _ _ _ (by omega)]; simp
  case rx =>
    intro j g hj hg
    rw [World.cell?_drew]
    by_cases e1 : j < k
    · rw [old _ _ (by omega) (by omega) (by omega)]; exact h.rx j g e1 hg
    · obtain rfl : j = k := by omega
      match g, hg with
      | 0, _ => rw [tower1 _ _ _ _ _ _ _ _ _ _ _ (by omega)]; rfl
      | 1, _ => rw [tower3 _ _ _ _ _ _ _ _ _ _ _ (by omega)]; rfl
      | 2, _ => rw [tower5 _ _ _ _ _ _ _ _ _ _ _ (by omega)]; rfl
  case dlo =>
    intro j hj
    rw [World.cell?_drew]
    by_cases e1 : j < k
    · rw [old _ _ (by omega) (by omega) (by omega)]; exact h.dlo j e1
    · obtain rfl : j = k := by omega
      rw [tower7 _ _ _ _ _ _ _ _ _ _ _ (by omega)]; rfl
  case dhi =>
    intro j hj
    rw [World.cell?_drew]
    by_cases e1 : j < k
    · rw [old _ _ (by omega) (by omega) (by omega)]; exact h.dhi j e1
    · obtain rfl : j = k := by omega
      rw [tower7 _ _ _ _ _ _ _ _ _ _ _ (by omega)]; rfl

theorem Bld.lay {w0 W : World} {e : Nat → Nat} {lf : Nat → Bool} {s : Nat → Nat × Nat} {dl : Nat → Bool} {c p : Nat} (h : Bld w0.heap.size w0 e lf s dl c p 3 W) (hc : c < 3) :
    Lay W (w0.heap.size + 12) (w0.heap.size + 14) c e lf :=
  ⟨fun j hj => by rw [h.t j hj, if_pos hj], fun j hj => h.r j c hj hc, fun j hj => h.ra j c hj hc, fun j hj => by rw [h.rl j c hj hc, if_pos rfl], fun j hj => by rw [h.rx j c hj hc, if_pos rfl]⟩

theorem Bld.mem {w0 W : World} {e : Nat → Nat} {lf : Nat → Bool} {s : Nat → Nat × Nat} {dl : Nat → Bool} {c p : Nat} (h : Bld w0.heap.size w0 e lf s dl c p 3 W) :
    Mem w0.heap.size (w0.heap.size + 13) (w0.heap.size + 14) W s dl W :=
  ⟨fun j hj => by rw [h.d j hj, if_pos hj], fun j hj => by rw [h.f j hj, if_pos hj], fun j hj => h.dlo j hj, fun j hj => h.dhi j hj,
   fun o => fresh_frozen h.grown _ _ (by omega), fun j o _ => fresh_frozen h.grown _ _ (by omega), fun _ _ _ => rfl, fun _ => rfl, Below.refl _ _⟩
end Go.Proofs.Ybulkboyu.handed
