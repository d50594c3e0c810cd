import Derived.Test.YbulkbpayMap
import Derived.BigQuiet
import Derived.Deep.RegionWith
import Derived.Deep.DeepCutAuto
import Derived.Deep.LoopGhost
namespace Go.Proofs.Ybulkbpay.un
open Go.ChangeShapes Go.WideShapes Go.ChangeAt Go.RowKit

theorem pref_any (i : Nat) (z : Int) (hz : z = (i : Int)) (hi : i < 3) (w : World) : Calls Yba.prog 7 #[.int .i64 z] w fun e w' => e = .returned (.string (pf i)) ∧ w' = w := by
  subst hz
  obtain rfl | rfl | rfl : i = 0 ∨ i = 1 ∨ i = 2 := by omega
  · go_enter Yba.func7, Yba.ntmps7
    go_wp2
    go_ret
    exact ⟨rfl, rfl⟩
  · go_enter Yba.func7, Yba.ntmps7
    go_wp2
    go_ret
    exact ⟨rfl, rfl⟩
  · go_enter Yba.func7, Yba.ntmps7
    go_wp2
    go_ret
    exact ⟨rfl, rfl⟩

/-- the snapshot of a scope -/
def cellsOf (sc : Nat → Int) : List Value := [.int .i64 (sc 0), .int .i64 (sc 1), .int .i64 (sc 2), .int .i64 (cnt sc : Nat)]

def part (sc : Nat → Int) : Nat → Nat
  | 0 => 0
  | k + 1 => part sc k + one (sc k)
theorem part_le (sc : Nat → Int) : ∀ k, part sc k ≤ k
  | 0 => Nat.le_refl _
  | k + 1 => by have := part_le sc k; unfold part one; split <;> omega

structure Tk (w : World) (sc : Nat → Int) (k : Nat) (wr : World) : Prop where
  bel : Below w.heap.size w wr
  size : w.heap.size + 2 ≤ wr.heap.size
  a : ∀ j, j < 4 → ∃ v, wr.cell? ⟨w.heap.size, j, none⟩ = some v
  fa : ∀ o, wr.frozen? ⟨w.heap.size, o, none⟩ = false
  b : ∀ j, j < 3 → wr.cell? ⟨w.heap.size + 1, j, none⟩ = some (.int .i64 (if j < k then sc j else 0))
  b3 : wr.cell? ⟨w.heap.size + 1, 3, none⟩ = some (.int .i64 (part sc k : Nat))
  fb : ∀ o, wr.frozen? ⟨w.heap.size + 1, o, none⟩ = false

theorem tk_start (w : World) (sc : Nat → Int) : Tk w sc 0 ((w.alloc (.cells #[.int .i64 0, .int .i64 0, .int .i64 0, .int .i64 0] 49)).alloc (.cells #[.int .i64 0, .int .i64 0, .int .i64 0, .int .i64 0] 49)) := by
  constructor
  case bel => exact ((Below.refl _ _).alloc (Nat.le_refl _) _).alloc (by simp) _
  case size => simp
  case a =>
    intro j hj
    rw [World.cell?_alloc_past _ _ _ (by simp), World.cell?_alloc_at _ _ _ _ rfl]
    obtain rfl | rfl | rfl | rfl : j = 0 ∨ j = 1 ∨ j = 2 ∨ j = 3 := by omega
    all_goals exact ⟨_, rfl⟩
  case fa => intro o; rw [World.frozen?_alloc_past _ _ _ (by simp), World.frozen?_alloc_at _ _ _ _ rfl]
  case b =>
    intro j hj
    rw [World.cell?_alloc_at _ _ _ _ (by simp)]
    obtain rfl | rfl | rfl : j = 0 ∨ j = 1 ∨ j = 2 := by omega
    all_goals rfl
  case b3 => rw [World.cell?_alloc_at _ _ _ _ (by simp)]; rfl
  case fb => intro o; rw [World.frozen?_alloc_at _ _ _ _ (by simp)]

theorem Tk.draw {w wr : World} {sc : Nat → Int} {k : Nat} (h : Tk w sc k wr) (n : Nat) : Tk w sc k (wr.drewN n) :=
  ⟨⟨h.bel.os, h.bel.tape, h.bel.output, h.bel.size, h.bel.block⟩, h.size, h.a, h.fa, h.b, h.b3, h.fb⟩

theorem Tk.there {w wr : World} {sc : Nat → Int} {k : Nat} (h : Tk w sc k wr) (hk : k < 3) (hs : sc k ≠ -1) :
    Tk w sc (k + 1) ((wr.setCell ⟨w.heap.size + 1, k, none⟩ (.int .i64 (sc k))).setCell ⟨w.heap.size + 1, 3, none⟩ (.int .i64 ((part sc k : Nat) + 1 : Int))) := by
  have ot : ∀ (W : World) (a b o o' : Nat) v, (a ≠ b ∨ o ≠ o') → (W.setCell ⟨a, o, none⟩ v).cell? ⟨b, o', none⟩ = W.cell? ⟨b, o', none⟩ := fun W a b o o' v hne =>
    World.cell?_setCell_other _ _ _ _ (by intro e; cases e; rcases hne with h | h <;> exact h rfl)
  constructor
  case bel => exact (h.bel.setCell (by show w.heap.size ≤ w.heap.size + 1; omega) _).setCell (by show w.heap.size ≤ w.heap.size + 1; omega) _
  case size => rw [World.size_setCell, World.size_setCell]; exact h.size
  case a => intro j hj; rw [ot _ _ _ _ _ _ (.inl (by omega)), ot _ _ _ _ _ _ (.inl (by omega))]; exact h.a j hj
  case fa => intro o; rw [World.frozen?_setCell, World.frozen?_setCell]; exact h.fa o
  case fb => intro o; rw [World.frozen?_setCell, World.frozen?_setCell]; exact h.fb o
  case b =>
    intro j hj
    rw [ot _ _ _ _ _ _ (.inr (by omega))]
    by_cases e : j = k
    · subst e; rw [World.cell?_setCell_same _ _ _ (h.b j hj), if_pos (by omega)]
    · rw [ot _ _ _ _ _ _ (.inr (fun e' => e e'.symm)), h.b j hj]
      by_cases e2 : j < k
      · rw [if_pos e2, if_pos (by omega)]
      · rw [if_neg e2, if_neg (by omega)]
  case b3 => rw [World.cell?_setCell_same _ _ _ ((ot _ _ _ _ _ _ (.inr (by omega))).trans h.b3)]; simp [part, one, hs]

theorem Tk.miss {w wr : World} {sc : Nat → Int} {k : Nat} (h : Tk w sc k wr) (hk : k < 3) (hs : sc k = -1) :
    Tk w sc (k + 1) (wr.setCell ⟨w.heap.size + 1, k, none⟩ (.int .i64 (-1))) := by
  have ot : ∀ (W : World) (a b o o' : Nat) v, (a ≠ b ∨ o ≠ o') → (W.setCell ⟨a, o, none⟩ v).cell? ⟨b, o', none⟩ = W.cell? ⟨b, o', none⟩ := fun W a b o o' v hne =>
    World.cell?_setCell_other _ _ _ _ (by intro e; cases e; rcases hne with h | h <;> exact h rfl)
  constructor
  case bel => exact h.bel.setCell (by show w.heap.size ≤ w.heap.size + 1; omega) _
  case size => rw [World.size_setCell]; exact h.size
  case a => intro j hj; rw [ot _ _ _ _ _ _ (.inl (by omega))]; exact h.a j hj
  case fa => intro o; rw [World.frozen?_setCell]; exact h.fa o
  case fb => intro o; rw [World.frozen?_setCell]; exact h.fb o
  case b =>
    intro j hj
    by_cases e : j = k
    · subst e; rw [World.cell?_setCell_same _ _ _ (h.b j hj), if_pos (by omega), hs]
    · rw [ot _ _ _ _ _ _ (.inr (fun e' => e e'.symm)), h.b j hj]
      by_cases e2 : j < k
      · rw [if_pos e2, if_pos (by omega)]
      · rw [if_neg e2, if_neg (by omega)]
  case b3 => rw [ot _ _ _ _ _ _ (.inr (by omega)), h.b3]; simp [part, one, hs]

theorem set4 {W : World} {b : Nat} {x0 x1 x2 x3 : Value} (h0 : W.cell? ⟨b, 0, none⟩ = some x0) (h1 : W.cell? ⟨b, 1, none⟩ = some x1) (h2 : W.cell? ⟨b, 2, none⟩ = some x2) (h3 : W.cell? ⟨b, 3, none⟩ = some x3) (v0 v1 v2 v3 : Value) :
    ∃ W', W' = (((W.setCell ⟨b, 0, none⟩ v0).setCell ⟨b, 1, none⟩ v1).setCell ⟨b, 2, none⟩ v2).setCell ⟨b, 3, none⟩ v3 ∧
      W'.cell? ⟨b, 0, none⟩ = some v0 ∧ W'.cell? ⟨b, 1, none⟩ = some v1 ∧ W'.cell? ⟨b, 2, none⟩ = some v2 ∧ W'.cell? ⟨b, 3, none⟩ = some v3 := by
  have ot : ∀ (W : World) (o o' : Nat) v, o ≠ o' → (W.setCell ⟨b, o, none⟩ v).cell? ⟨b, o', none⟩ = W.cell? ⟨b, o', none⟩ := fun W o o' v hne =>
    World.cell?_setCell_other _ _ _ _ (by intro e; cases e; exact hne rfl)
  refine ⟨_, rfl, ?_, ?_, ?_, ?_⟩
  · rw [ot _ _ _ _ (by decide), ot _ _ _ _ (by decide), ot _ _ _ _ (by decide), World.cell?_setCell_same _ _ _ h0]
  · rw [ot _ _ _ _ (by decide), ot _ _ _ _ (by decide), World.cell?_setCell_same _ _ _ ((ot _ _ _ _ (by decide)).trans h1)]
  · rw [ot _ _ _ _ (by decide), World.cell?_setCell_same _ _ _ ((ot _ _ _ _ (by decide)).trans ((ot _ _ _ _ (by decide)).trans h2))]
  · rw [World.cell?_setCell_same _ _ _ ((ot _ _ _ _ (by decide)).trans ((ot _ _ _ _ (by decide)).trans ((ot _ _ _ _ (by decide)).trans h3)))]

theorem part3 (sc : Nat → Int) : part sc 3 = cnt sc := by simp [part, cnt]

theorem take_any (w : World) (R M : Nat) (sc : Nat → Int) (hR : w.cell? ⟨R, 8, none⟩ = some (.map (some M))) (hM : Mp w M sc) :
    Calls Yba.prog 9 #[.pointer (some ⟨R, 0, none⟩)] w fun e w' => e = .returned (.agg (cellsOf sc).toArray) ∧ Below w.heap.size w w' := by
  have hst := tk_start w sc
  have hRb := World.block_lt_of_cell? _ _ hR
  have hMb := hM.lt
  go_enter Yba.func9, Yba.ntmps9
  go_wp2
  generalize (w.alloc (.cells #[.int .i64 0, .int .i64 0, .int .i64 0, .int .i64 0] 49)).alloc (.cells #[.int .i64 0, .int .i64 0, .int .i64 0, .int .i64 0] 49) = w2 at hst ⊢
  go_loopg [4] 3 (fun g i wr => ∃ k : Nat, k + g = 3 ∧ i = .int .i64 k ∧ Tk w sc k wr)
  case atStart => exact ⟨0, rfl, rfl, hst⟩
  clear hst
  case round =>
    obtain ⟨k, hk, rfl, ht⟩ := hrel
    by_cases hlt : k < 3
    · have hdn : decide ((k : Int) < 3) = true := by simp; omega
      have r1 : wr.cell? ⟨R, 8, none⟩ = some (.map (some M)) := (ht.bel.cell hRb).trans hR
      have HL : Hid (∀ n, (Instr.lookup 33 (.map (some M)) (.string (pf k)) true).run Yba.prog (wr.drewN n) = .ok (.tuple #[.int .i64 (if sc k = -1 then 0 else sc k), .bool (decide (sc k ≠ -1))]) (wr.drewN n)) := fun n => (hM.block (w' := wr.drewN n) (ht.bel.block M hMb)).look hlt
      have HL' := HL.out
      by_cases hs : sc k = -1
      · have hsd : decide (sc k ≠ -1) = false := by simp [hs]
        rw [hsd, if_pos hs] at HL'
        have b0 := ht.b k hlt
        have b1 := ht.fb k
        go_upto_region 5 with fail
        go_quiet (first | (go_at_call 7; refine Calls.quiet_of_same (pref_any k _ rfl hlt _)))
        go_wp2
        go_roundg (3 - (k + 1))
        case measure => omega
        case rel => exact ⟨k + 1, by omega, by go_num, (ht.draw _).miss hlt hs⟩
      · have hsd : decide (sc k ≠ -1) = true := by simp [hs]
        rw [hsd, if_neg hs] at HL'
        have b0 := ht.b k hlt
        have b1 := ht.fb k
        have b3 := ht.b3
        have b4 := ht.fb 3
        have b5 := part_le sc k
        have b6 : ∀ (W : World) v, (W.setCell ⟨w.heap.size + 1, k, none⟩ v).cell? ⟨w.heap.size + 1, 3, none⟩ = W.cell? ⟨w.heap.size + 1, 3, none⟩ := fun W v => World.cell?_setCell_other _ _ _ _ (by intro e; cases e; omega)
        go_upto_region 5 with fail
        go_quiet (first | (go_at_call 7; refine Calls.quiet_of_same (pref_any k _ rfl hlt _)))
        go_wp2
        go_roundg (3 - (k + 1))
        case measure => omega
        case rel => exact ⟨k + 1, by omega, by go_num, (ht.draw _).there hlt hs⟩
    · obtain rfl : 3 = k := by omega
      have q0 := ht.b 0 (by omega)
      have q1 := ht.b 1 (by omega)
      have q2 := ht.b 2 (by omega)
      have q3 := ht.b3
      simp at q0 q1 q2
      obtain ⟨v0, a0⟩ := ht.a 0 (by omega)
      obtain ⟨v1, a1⟩ := ht.a 1 (by omega)
      obtain ⟨v2, a2⟩ := ht.a 2 (by omega)
      obtain ⟨v3, a3⟩ := ht.a 3 (by omega)
      have fa := ht.fa
      go_wp2
      obtain ⟨W', hW', e0, e1, e2, e3⟩ := set4 a0 a1 a2 a3 (.int .i64 (sc 0)) (.int .i64 (sc 1)) (.int .i64 (sc 2)) (.int .i64 (part sc 3 : Nat))
      have hB' : Below w.heap.size w W' := by
        rw [hW']
        exact (((ht.bel.setCell (Nat.le_refl _) _).setCell (Nat.le_refl _) _).setCell (Nat.le_refl _) _).setCell (Nat.le_refl _) _
      rw [← hW']
      rw [part3] at e3
      refine bodyPost_ret (v := .agg (cellsOf sc).toArray) ?_ rfl ⟨rfl, hB'⟩
      clear hW' hB' ht a0 a1 a2 a3 fa q0 q1 q2 q3
      simp [results, Yba.results9, go_sem, e0, e1, e2, e3, cellsOf]
end Go.Proofs.Ybulkbpay.un
