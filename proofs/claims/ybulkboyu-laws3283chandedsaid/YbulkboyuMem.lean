import Derived.Test.YbulkboyuBitA
/-! The memory that 'handed' reads and writes, as facts on cells. -/
namespace Go.Proofs.Ybulkboyu.handed
open Go.RowKit

/-- what 'handed' reads and never writes: for each way j the callee's entry. -/
structure Lay (w : World) (T S c : Nat) (x : Nat → Nat) (l : Nat → Bool) : Prop where
  t : ∀ j, j < 3 → w.cell? ⟨T, j, none⟩ = some (.slice (some ⟨S + 8 * j, 0, none⟩) 3 3)
  e : ∀ j, j < 3 → w.cell? ⟨S + 8 * j, c, none⟩ = some (.slice (some ⟨S + 8 * j + 2 + 2 * c, 0, none⟩) 1 1)
  a : ∀ j, j < 3 → w.cell? ⟨S + 8 * j + 2 + 2 * c, 0, none⟩ = some (.slice (some ⟨S + 8 * j + 1 + 2 * c, 0, none⟩) 1 1)
  l : ∀ j, j < 3 → w.cell? ⟨S + 8 * j + 2 + 2 * c, 1, none⟩ = some (.bool (l j))
  x : ∀ j, j < 3 → w.cell? ⟨S + 8 * j + 1 + 2 * c, 0, none⟩ = some (.int .u64 (x j))

/-- the destination: for each way j two words and a flag; all else is as in w0. -/
structure Mem (B D S : Nat) (w0 : World) (s : Nat → Nat × Nat) (dl : Nat → Bool) (w : World) : Prop where
  at_ : ∀ j, j < 3 → w.cell? ⟨D, j * 2, none⟩ = some (.slice (some ⟨S + 8 * j + 7, 0, none⟩) 2 2)
  fl : ∀ j, j < 3 → w.cell? ⟨D, j * 2 + 1, none⟩ = some (.bool (dl j))
  lo : ∀ j, j < 3 → w.cell? ⟨S + 8 * j + 7, 0, none⟩ = some (.int .u64 ((s j).1 : Nat))
  hi : ∀ j, j < 3 → w.cell? ⟨S + 8 * j + 7, 1, none⟩ = some (.int .u64 ((s j).2 : Nat))
  frD : ∀ o, w.frozen? ⟨D, o, none⟩ = false
  frS : ∀ j o, j < 3 → w.frozen? ⟨S + 8 * j + 7, o, none⟩ = false
  oth : ∀ a : Addr, a.block ≠ D → (∀ j, j < 3 → a.block ≠ S + 8 * j + 7) → w.cell? a = w0.cell? a
  frz : ∀ a, w.frozen? a = w0.frozen? a
  bel : Below B w0 w

theorem Mem.drewN {B D S : Nat} {w0 : World} {s : Nat → Nat × Nat} {dl : Nat → Bool} {w : World} (h : Mem B D S w0 s dl w) (n : Nat) : Mem B D S w0 s dl (w.drewN n) :=
  ⟨h.at_, h.fl, h.lo, h.hi, h.frD, h.frS, h.oth, h.frz, h.bel.trans ⟨rfl, rfl, rfl, Nat.le_refl _, fun _ _ => rfl⟩⟩

theorem Mem.drew {B D S : Nat} {w0 : World} {s : Nat → Nat × Nat} {dl : Nat → Bool} {w : World} (h : Mem B D S w0 s dl w) : Mem B D S w0 s dl w.drew := h.drewN 1

theorem Mem.same {B D S : Nat} {w0 : World} {s s' : Nat → Nat × Nat} {dl dl' : Nat → Bool} {w : World} (h : Mem B D S w0 s dl w) (hs : ∀ j, j < 3 → s j = s' j) (hd : ∀ j, j < 3 → dl j = dl' j) : Mem B D S w0 s' dl' w :=
  ⟨h.at_, fun j hj => by rw [h.fl j hj, hd j hj], fun j hj => by rw [h.lo j hj, hs j hj], fun j hj => by rw [h.hi j hj, hs j hj], h.frD, h.frS, h.oth, h.frz, h.bel⟩

theorem other {w : World} {a b : Addr} {v : Value} (h : a.block ≠ b.block ∨ a.off ≠ b.off) : (w.setCell a v).cell? b = w.cell? b :=
  World.cell?_setCell_other _ _ _ _ (by rintro rfl; rcases h with h | h <;> exact h rfl)

theorem Mem.flag {B D S : Nat} {w0 : World} {s : Nat → Nat × Nat} {dl : Nat → Bool} {w : World} (h : Mem B D S w0 s dl w) (hDS : D < S) (hBD : B ≤ D) (k : Nat) (hk : k < 3) (b : Bool) :
    Mem B D S w0 s (fun j => if j = k then b else dl j) (w.setCell ⟨D, k * 2 + 1, none⟩ (.bool b)) := by
  refine ⟨fun j hj => ?_, fun j hj => ?_, fun j hj => ?_, fun j hj => ?_, fun o => ?_, fun j o hj => ?_, fun a h1 h2 => ?_, fun a => ?_, ?_⟩
  · rw [other (by right; show k * 2 + 1 ≠ j * 2; omega)]; exact h.at_ j hj
  · by_cases e : j = k
    · subst e; simp only [if_true]; exact World.cell?_setCell_same _ _ _ (h.fl j hj)
    · rw [other (by right; show k * 2 + 1 ≠ j * 2 + 1; omega)]; simp only [e, if_false]; exact h.fl j hj
  · rw [other (by left; show D ≠ S + 8 * j + 7; omega)]; exact h.lo j hj
  · rw [other (by left; show D ≠ S + 8 * j + 7; omega)]; exact h.hi j hj
  · rw [World.frozen?_setCell]; exact h.frD o
  · rw [World.frozen?_setCell]; exact h.frS j o hj
  · rw [other (by left; exact fun e => h1 e.symm)]; exact h.oth a h1 h2
  · rw [World.frozen?_setCell]; exact h.frz a
  · exact h.bel.setCell hBD _

theorem Mem.setLo {B D S : Nat} {w0 : World} {s : Nat → Nat × Nat} {dl : Nat → Bool} {w : World} (h : Mem B D S w0 s dl w) (hDS : D < S) (hBD : B ≤ D) (k : Nat) (hk : k < 3) (v : Nat) :
    Mem B D S w0 (fun j => if j = k then (v, (s k).2) else s j) dl (w.setCell ⟨S + 8 * k + 7, 0, none⟩ (.int .u64 (v : Nat))) := by
  refine ⟨fun j hj => ?_, fun j hj => ?_, fun j hj => ?_, fun j hj => ?_, fun o => ?_, fun j o hj => ?_, fun a h1 h2 => ?_, fun a => ?_, ?_⟩
  · rw [other (by left; show S + 8 * k + 7 ≠ D; omega)]; exact h.at_ j hj
  · rw [other (by left; show S + 8 * k + 7 ≠ D; omega)]; exact h.fl j hj
  · by_cases e : j = k
    · subst e; simp only [if_true]; exact World.cell?_setCell_same _ _ _ (h.lo j hj)
    · rw [other (by left; show S + 8 * k + 7 ≠ S + 8 * j + 7; omega)]; simp only [e, if_false]; exact h.lo j hj
  · by_cases e : j = k
    · subst e; simp only [if_true]; rw [other (by right; show (0 : Nat) ≠ 1; omega)]; exact h.hi j hj
    · rw [other (by left; show S + 8 * k + 7 ≠ S + 8 * j + 7; omega)]; simp only [e, if_false]; exact h.hi j hj
  · rw [World.frozen?_setCell]; exact h.frD o
  · rw [World.frozen?_setCell]; exact h.frS j o hj
  · rw [other (by left; exact fun e => h2 k hk e.symm)]; exact h.oth a h1 h2
  · rw [World.frozen?_setCell]; exact h.frz a
  · exact h.bel.setCell (by show B ≤ S + 8 * k + 7; omega) _

theorem Mem.setHi {B D S : Nat} {w0 : World} {s : Nat → Nat × Nat} {dl : Nat → Bool} {w : World} (h : Mem B D S w0 s dl w) (hDS : D < S) (hBD : B ≤ D) (k : Nat) (hk : k < 3) (v : Nat) :
    Mem B D S w0 (fun j => if j = k then ((s k).1, v) else s j) dl (w.setCell ⟨S + 8 * k + 7, 1, none⟩ (.int .u64 (v : Nat))) := by
  refine ⟨fun j hj => ?_, fun j hj => ?_, fun j hj => ?_, fun j hj => ?_, fun o => ?_, fun j o hj => ?_, fun a h1 h2 => ?_, fun a => ?_, ?_⟩
  · rw [other (by left; show S + 8 * k + 7 ≠ D; omega)]; exact h.at_ j hj
  · rw [other (by left; show S + 8 * k + 7 ≠ D; omega)]; exact h.fl j hj
  · by_cases e : j = k
    · subst e; simp only [if_true]; rw [other (by right; show (1 : Nat) ≠ 0; omega)]; exact h.lo j hj
    · rw [other (by left; show S + 8 * k + 7 ≠ S + 8 * j + 7; omega)]; simp only [e, if_false]; exact h.lo j hj
  · by_cases e : j = k
    · subst e; simp only [if_true]; exact World.cell?_setCell_same _ _ _ (h.hi j hj)
    · rw [other (by left; show S + 8 * k + 7 ≠ S + 8 * j + 7; omega)]; simp only [e, if_false]; exact h.hi j hj
  · rw [World.frozen?_setCell]; exact h.frD o
  · rw [World.frozen?_setCell]; exact h.frS j o hj
  · rw [other (by left; exact fun e => h2 k hk e.symm)]; exact h.oth a h1 h2
  · rw [World.frozen?_setCell]; exact h.frz a
  · exact h.bel.setCell (by show B ≤ S + 8 * k + 7; omega) _

/-- the read part stands in every such world. -/
theorem Mem.lay {B D S T c : Nat} {w0 : World} {s : Nat → Nat × Nat} {dl : Nat → Bool} {w : World} {x : Nat → Nat} {l : Nat → Bool} (h : Mem B D S w0 s dl w) (hl : Lay w0 T S c x l) (hTD : T < D) (hDS : D < S) (hc : c < 3) : Lay w T S c x l :=
  ⟨fun j hj => (h.oth _ (by show T ≠ D; omega) (fun i _ => by show T ≠ S + 8 * i + 7; omega)).trans (hl.t j hj),
   fun j hj => (h.oth _ (by show S + 8 * j ≠ D; omega) (fun i _ => by show S + 8 * j ≠ S + 8 * i + 7; omega)).trans (hl.e j hj),
   fun j hj => (h.oth _ (by show S + 8 * j + 2 + 2 * c ≠ D; omega) (fun i _ => by show S + 8 * j + 2 + 2 * c ≠ S + 8 * i + 7; omega)).trans (hl.a j hj),
   fun j hj => (h.oth _ (by show S + 8 * j + 2 + 2 * c ≠ D; omega) (fun i _ => by show S + 8 * j + 2 + 2 * c ≠ S + 8 * i + 7; omega)).trans (hl.l j hj),
   fun j hj => (h.oth _ (by show S + 8 * j + 1 + 2 * c ≠ D; omega) (fun i _ => by show S + 8 * j + 1 + 2 * c ≠ S + 8 * i + 7; omega)).trans (hl.x j hj)⟩
end Go.Proofs.Ybulkboyu.handed
