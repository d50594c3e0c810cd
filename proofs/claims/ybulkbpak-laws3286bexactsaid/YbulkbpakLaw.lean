import Derived.Test.YbulkbpakCoverAll
import Derived.Deep.RegionWith
namespace Go.Proofs.Ybulkbpak.ex
open Go.ChangeShapes Go.WideShapes Go.ChangeAt Go.RowKit

theorem info9 : (Yba.prog.info? 9).map (fun i => (i.zero, i.size, i.bytes)) = some (some (.string ⟨#[]⟩), 1, 16) := by kernel_rfl

def rep (n : Nat) : Array Value := madeCells (Value.string ⟨#[]⟩).cells n
theorem rep_at (n j : Nat) (h : j < n) : (rep n)[j]? = some (.string ⟨#[]⟩) := by
  simp [rep, madeCells, Value.cells, h, Nat.mod_one]
theorem make_strs (n : Nat) (hn : n ≤ 1024) (w : World) : (Instr.makeSlice 23 (.int .i64 (n : Int)) (.int .i64 (n : Int))).run Yba.prog w = .ok (.slice (some ⟨w.heap.size, 0, none⟩) n n) (w.alloc (.cells (rep n) 9)) := by
  obtain ⟨i0, hi, hz0, hz1, hz2⟩ := info_parts info9
  rw [run_makeSlice w 23 9 i0 _ Yba.underlying23 hi hz0 .i64 .i64 n n (by omega) (by omega) (by rw [hz1]; omega) (by rw [hz2]; omega) (by omega), hz1, Nat.mul_one, Int.toNat_natCast]
  rfl

/-- the two rows behind k rounds of the law's second loop -/
structure Two (w0 : World) (len : Nat) (ps : Nat → List UInt8) (k : Nat) (w : World) : Prop where
  bel : Below w0.heap.size w0 w
  size : w0.heap.size + 2 ≤ w.heap.size
  c : ∀ j, j < len → w.cell? ⟨w0.heap.size, j, none⟩ = some (.string (if j < k then str (ps j) else ⟨#[]⟩))
  d : ∀ j, j < len → w.cell? ⟨w0.heap.size + 1, j, none⟩ = some (.string (if j < k then str (ps j) else ⟨#[]⟩))
  frC : ∀ o, w.frozen? ⟨w0.heap.size, o, none⟩ = false
  frD : ∀ o, w.frozen? ⟨w0.heap.size + 1, o, none⟩ = false

theorem two_start (w0 : World) (len : Nat) (ps : Nat → List UInt8) : Two w0 len ps 0 ((w0.alloc (.cells (rep len) 9)).alloc (.cells (rep len) 9)) := by
  constructor
  case bel => exact ((Below.refl _ _).alloc (Nat.le_refl _) _).alloc (by simp) _
  case size => simp
  case c => intro j hj; rw [World.cell?_alloc_past _ _ _ (by simp), World.cell?_alloc_at _ _ _ _ rfl, rep_at len j hj]; simp
  case d => intro j hj; rw [World.cell?_alloc_at _ _ _ _ (by simp), rep_at len j hj]; simp
  case frC => intro o; rw [World.frozen?_alloc_past _ _ _ (by simp), World.frozen?_alloc_at _ _ _ _ rfl]
  case frD => intro o; rw [World.frozen?_alloc_at _ _ _ _ (by simp)]

theorem Two.next {w0 w w1 : World} {len : Nat} {ps : Nat → List UInt8} {k : Nat} (h : Two w0 len ps k w) (hk : k < len) (hb : Below w.heap.size w w1) :
    Two w0 len ps (k + 1) ((w1.setCell ⟨w0.heap.size, k, none⟩ (.string (str (ps k)))).setCell ⟨w0.heap.size + 1, k, none⟩ (.string (str (ps k)))) := by
  have hsz := h.size
  have hC : ∀ o, w1.cell? ⟨w0.heap.size, o, none⟩ = w.cell? ⟨w0.heap.size, o, none⟩ := fun o => hb.cell (p := ⟨w0.heap.size, o, none⟩) (by show w0.heap.size < _; omega)
  have hD : ∀ o, w1.cell? ⟨w0.heap.size + 1, o, none⟩ = w.cell? ⟨w0.heap.size + 1, o, none⟩ := fun o => hb.cell (p := ⟨w0.heap.size + 1, o, none⟩) (by show w0.heap.size + 1 < _; omega)
  have ot : ∀ (W : World) (a b o o' : Nat) v, (a ≠ b ∨ o ≠ o') → (W.setCell ⟨a, o, none⟩ v).cell? ⟨b, o', none⟩ = W.cell? ⟨b, o', none⟩ := fun W a b o o' v hne =>
    World.cell?_setCell_other _ _ _ _ (by intro e; cases e; rcases hne with h | h <;> exact h rfl)
  constructor
  case bel => exact ((h.bel.trans (hb.mono (by omega))).setCell (Nat.le_refl _) _).setCell (by show w0.heap.size ≤ w0.heap.size + 1; omega) _
  case size => rw [World.size_setCell, World.size_setCell]; exact Nat.le_trans hsz hb.size
  case c =>
    intro j hj
    rw [ot _ _ _ _ _ _ (.inl (by omega))]
    by_cases e : j = k
    · subst e; rw [World.cell?_setCell_same _ _ _ ((hC j).trans (h.c j hj)), if_pos (by omega)]
    · rw [ot _ _ _ _ _ _ (.inr (fun e' => e e'.symm)), hC, h.c j hj]
      by_cases e2 : j < k
      · rw [if_pos e2, if_pos (by omega)]
      · rw [if_neg e2, if_neg (by omega)]
  case d =>
    intro j hj
    by_cases e : j = k
    · subst e; rw [World.cell?_setCell_same _ _ _ ((ot _ _ _ _ _ _ (.inl (by omega))).trans ((hD j).trans (h.d j hj))), if_pos (by omega)]
    · rw [ot _ _ _ _ _ _ (.inr (fun e' => e e'.symm)), ot _ _ _ _ _ _ (.inl (by omega)), hD, h.d j hj]
      by_cases e2 : j < k
      · rw [if_pos e2, if_pos (by omega)]
      · rw [if_neg e2, if_neg (by omega)]
  case frC => intro o; rw [World.frozen?_setCell, World.frozen?_setCell, hb.frozen (p := ⟨w0.heap.size, o, none⟩) (by show w0.heap.size < _; omega)]; exact h.frC o
  case frD => intro o; rw [World.frozen?_setCell, World.frozen?_setCell, hb.frozen (p := ⟨w0.heap.size + 1, o, none⟩) (by show w0.heap.size + 1 < _; omega)]; exact h.frD o

/-- the search, made -/
theorem Two.cov {w0 w : World} {len wd : Nat} {ps : Nat → List UInt8} (f : List UInt8 → List UInt8) (h : Two w0 len ps len w) :
    Cov (w.alloc (.cells #[.slice none 0 0, .slice none 0 0, .int .i64 wd, .slice none 0 0, .slice (some ⟨w0.heap.size, 0, none⟩) len len, .slice none 0 0] 31)) w.heap.size w0.heap.size len wd ps f 0
      (w.alloc (.cells #[.slice none 0 0, .slice none 0 0, .int .i64 wd, .slice none 0 0, .slice (some ⟨w0.heap.size, 0, none⟩) len len, .slice none 0 0] 31)) := by
  have hsz := h.size
  constructor
  case os => rfl
  case tape => rfl
  case output => rfl
  case size => exact Nat.le_refl _
  case oth => intro b _ _ _; rfl
  case row => intro j hj; rw [World.cell?_alloc_past _ _ _ (by omega), h.c j hj, if_pos hj, if_neg (by omega)]
  case frC => intro o; rw [World.frozen?_alloc_past _ _ _ (by omega)]; exact h.frC o
  case frS => intro o; rw [World.frozen?_alloc_at _ _ _ _ rfl]
  case c2 => rw [World.cell?_alloc_at _ _ _ _ rfl]; rfl
  case c4 => rw [World.cell?_alloc_at _ _ _ _ rfl]; rfl
  case c5 => left; rw [World.cell?_alloc_at _ _ _ _ rfl]; rfl

theorem model_any' (l : List UInt8) (wd sl : Nat) (zw zs : Int) (hzw : zw = (wd : Int)) (hzs : zs = (sl : Int)) (hw : 1 ≤ wd) (hw4 : wd ≤ 4) (hsl : sl < 8 * wd) (hp : l.length ≤ 5000) (w : World) :
    Calls Yba.prog 6 #[.string (str l), .int .i64 zw, .int .i64 zs] w fun e w' => e = .returned (.string (str (mdl (sl / 8) (wd + sl / 8) (sl % 8) l))) ∧ Below w.heap.size w w' := by
  have := model_any (str l) wd sl zw zs hzw hzs hw hw4 hsl (by rw [str_size]; exact hp) w
  rw [str_list] at this
  exact this

theorem pad_any' (c : ByteArray) (n : Nat) (z : Int) (hz : z = (n : Int)) (hc : c.size ≤ 4096) (hn : n ≤ 8) (w : World) :
    Calls Yba.prog 4 #[.string c, .int .i64 z] w fun e w' => e = .returned (.string (str (padL c.data.toList n))) ∧ Below w.heap.size w w' := pad_any c n z hz hc hn w

theorem padL_len (c : ByteArray) (n : Nat) (hc : c.size ≤ 4096) (hn : n ≤ 8) : n ≤ (padL c.data.toList n).length ∧ (padL c.data.toList n).length ≤ 5000 := by
  have : c.data.toList.length = c.size := by simp
  simp only [padL, List.length_append, List.length_replicate]
  omega
end Go.Proofs.Ybulkbpak.ex
