import Derived.Test.YbulkbpayNew
import Derived.RangeFuncNested
import Derived.RangeFuncBound
import Derived.RangeFuncCalls
import Derived.RangeFuncLeaves
import Derived.Shelf.Abstract
import Derived.Shelf.RegionOpen
import Derived.OwnWalkIn
import Derived.TacticsInMore
import Derived.LoopNIn
import Derived.LoopIn
namespace Go.Proofs.Ybulkbpay.un
open Go.ChangeShapes Go.WideShapes Go.ChangeAt Go.RowKit Go.Shelf
attribute [local go_sem] Oper.semAt_some

/-- what the iterator hands on: an index and a binding -/
abbrev It := { x : Int × BE // x.2.p < 3 ∧ -1 ≤ x.2.sh ∧ x.2.sh < 5000 }
def encs (x : It) : Array Value := #[.int .i64 x.1.1, .agg #[.string (pf x.1.2.p), .string x.1.2.sp, .int .i64 x.1.2.sh]]

/-- below n₀ all but block N stands -/
structure Kept (n₀ N : Nat) (w w' : World) : Prop where
  os : w'.os = w.os
  tape : w'.tape = w.tape
  output : w'.output = w.output
  size : w.heap.size ≤ w'.heap.size
  block : ∀ k, k < n₀ → k ≠ N → w'.heap[k]? = w.heap[k]?
theorem Kept.refl (n₀ N : Nat) (w : World) : Kept n₀ N w w := ⟨rfl, rfl, rfl, Nat.le_refl _, fun _ _ _ => rfl⟩
theorem Kept.trans {n₀ N : Nat} {a b c : World} (h : Kept n₀ N a b) (k : Kept n₀ N b c) : Kept n₀ N a c :=
  ⟨k.os.trans h.os, k.tape.trans h.tape, k.output.trans h.output, Nat.le_trans h.size k.size, fun i hi hn => (k.block i hi hn).trans (h.block i hi hn)⟩
theorem Kept.cell {n₀ N : Nat} {a b : World} (h : Kept n₀ N a b) {p : Addr} (hp : p.block < n₀) (hn : p.block ≠ N) : b.cell? p = a.cell? p := World.cell?_of_block (h.block _ hp hn)
theorem kept_of_below {n₀ N : Nat} {a b : World} (h : Below n₀ a b) : Kept n₀ N a b := ⟨h.os, h.tape, h.output, h.size, fun k hk _ => h.block k hk⟩
theorem kept_b {n₀ N : Nat} {w : World} (hn : n₀ ≤ w.heap.size) (W : World) (l : Nat) (o o' : Obj) (hl : w.heap.size ≤ l) (h : W.heap[l]? = some o) (h1 : o.isCells = false) (h2 : o.isWalk = false) : Kept n₀ N W (W.putObj l o') :=
  kept_of_below (belowK_b hn W l o o' hl h h1 h2)

def upto {α : Type} (f : Nat → α) (k : Nat) : List α := (List.range k).map f
theorem upto_succ {α : Type} (f : Nat → α) (k : Nat) : upto f (k + 1) = upto f k ++ [f k] := by simp [upto, List.range_succ]
theorem upto_length {α : Type} (f : Nat → α) (k : Nat) : (upto f k).length = k := by simp [upto]

/-- the bindings from the slice's start on -/
def BRow (n₀ N : Nat) (W : World) (ao : Option Addr) (len : Nat) (fs : Nat → BE) : Prop :=
  ∀ j, j < len → ∃ b off, ao = some ⟨b, off, none⟩ ∧ b < n₀ ∧ b ≠ N ∧ W.cell? ⟨b, off + j * 3, none⟩ = some (.string (pf (fs j).p)) ∧ W.cell? ⟨b, off + j * 3 + 1, none⟩ = some (.string (fs j).sp) ∧ W.cell? ⟨b, off + j * 3 + 2, none⟩ = some (.int .i64 (fs j).sh)

theorem BRow.kept {n₀ N : Nat} {W W' : World} {ao : Option Addr} {len : Nat} {fs : Nat → BE} (h : BRow n₀ N W ao len fs) (hk : Kept n₀ N W W') : BRow n₀ N W' ao len fs := by
  intro j hj
  obtain ⟨b, off, e, hb, hn, h1, h2, h3⟩ := h j hj
  exact ⟨b, off, e, hb, hn, (hk.cell (p := ⟨b, off + j * 3, none⟩) hb hn).trans h1, (hk.cell (p := ⟨b, off + j * 3 + 1, none⟩) hb hn).trans h2, (hk.cell (p := ⟨b, off + j * 3 + 2, none⟩) hb hn).trans h3⟩

def item (fs : Nat → BE) (hf : ∀ j, (fs j).p < 3 ∧ -1 ≤ (fs j).sh ∧ (fs j).sh < 5000) (j : Nat) : It := ⟨((j : Int), fs j), hf j⟩

set_option maxRecDepth 100000 in
set_option maxHeartbeats 2000000 in
theorem back1 (n : Nat) (hn : 1 ≤ n) (l Bs n₀ N len cap : Nat) (ao : Option Addr) (fs : Nat → BE) (hf : ∀ j, (fs j).p < 3 ∧ -1 ≤ (fs j).sh ∧ (fs j).sh < 5000) (hlen : len ≤ 5000) (hBs : Bs < n₀) (hBN : Bs ≠ N) (J Jx : List It → World → Prop)
    (hY : ∀ pre x W, J pre W → pre.length < len → YieldAt Fence.wide (n - 1) Yba.prog l (encs x) W fun e W' =>
      (e = .returned (.bool true) ∧ J (pre ++ [x]) W' ∧ Kept n₀ N W W') ∨ (e = .returned (.bool false) ∧ Jx (pre ++ [x]) W'))
    (W : World) (hB : W.cell? ⟨Bs, 0, none⟩ = some (.slice ao len cap)) (hrow : BRow n₀ N W ao len fs) (h0 : J [] W) :
    CallsIn Fence.wide n Yba.prog 11 #[.func (.yield l) #[] #[], .pointer (some ⟨Bs, 0, none⟩)] W fun e W' => (∃ v, e = .returned v) ∧
      ((∃ ys, ys = upto (fun k => item fs hf (len - 1 - k)) len ∧ J ys W') ∨ (∃ pre, True ∧ Jx pre W')) := by
  refine callsIn_of_wp Yba.func11 rfl trivial ?_ rfl
  simp only [Yba.ntmps11, List.size_toArray, List.length_cons, List.length_nil, Nat.reduceAdd, Nat.reduceSub, Array.replicate_succ, Array.replicate_zero, List.push_toArray, List.append_toArray, List.nil_append, List.cons_append]
  have HROW : Hid (BRow n₀ N W ao len fs) := hrow
  clear hrow
  gi_wp2
  gi_loopw [3] (fun i wr => ∃ k m : Nat, k + m = len ∧ i = .int .i64 ((m : Int) - 1) ∧ J (upto (fun k => item fs hf (len - 1 - k)) k) wr ∧ Kept n₀ N W wr)
    (fun i _ => (intOf i + 1).toNat)
  case atStart => exact ⟨0, len, by omega, rfl, h0, Kept.refl _ _ _⟩
  case round =>
    obtain ⟨k, m, hkm, rfl, hJs, hnx⟩ := hrel
    have hB' : wr.cell? ⟨Bs, 0, none⟩ = some (.slice ao len cap) := (hnx.cell (p := ⟨Bs, 0, none⟩) hBs hBN).trans hB
    cases m with
    | zero =>
      obtain rfl : k = len := by omega
      gi_wp2
      go_end0
      exact ⟨⟨_, rfl⟩, .inl ⟨_, rfl, hJs⟩⟩
    | succ m =>
      have e0 : ((m + 1 : Nat) : Int) - 1 = (m : Int) := by omega
      rw [e0]
      have hlt : m < len := by omega
      have hdn : decide ((m : Int) ≥ 0) = true := by simp
      obtain ⟨b, off, rfl, hb, hbN, h1, h2, h3⟩ := HROW.out.kept hnx m hlt
      obtain ⟨fn, tmps, assign, body, hy, hR⟩ := hY _ (item fs hf m) wr hJs (by rw [upto_length]; omega)
      dsimp only [encs, item] at hy
      have hJn : ∀ W3, J (upto (fun k => item fs hf (len - 1 - k)) k ++ [item fs hf m]) W3 → J (upto (fun k => item fs hf (len - 1 - k)) (k + 1)) W3 := fun W3 h => by
        rw [upto_succ, show len - 1 - k = m by omega]; exact h
      gi_wp2
      refine hR.mono ?_
      rintro e W3 (⟨rfl, hJ3, hk3⟩ | ⟨rfl, hJx3⟩)
      · gi_wp2
        go_roundw
        case rel => exact ⟨k + 1, m, by omega, rfl, hJn _ hJ3, hnx.trans hk3⟩
        case measure => simp [intOf]
      · gi_wp2
        refine bodyPost_ret (results_none rfl _ _ _) rfl ?_
        exact ⟨⟨_, rfl⟩, .inr ⟨_, trivial, hJx3⟩⟩

set_option maxHeartbeats 1000000 in
/-- slices.Backward: the slice's value is boxed; the function value captures the box. -/
theorem back_in (n : Nat) (a : Option Addr) (len cap : Nat) (w : World) :
    CallsIn Fence.wide n Yba.prog 10 #[.slice a len cap] w fun e w' => e = .returned (.func (.func 11) #[] #[.pointer (some ⟨w.heap.size, 0, none⟩)]) ∧ w' = w.alloc (.cells #[.slice a len cap] 32) := by
  refine callsIn_of_wp Yba.func10 rfl trivial ?_ rfl
  simp only [Yba.ntmps10, List.size_toArray, List.length_cons, List.length_nil, Nat.reduceAdd, Nat.reduceSub, Array.replicate_succ, Array.replicate_zero, List.push_toArray, List.append_toArray, List.nil_append, List.cons_append]
  gi_wp2
  go_ret
  exact ⟨rfl, rfl⟩

theorem back_stops (n : Nat) (hn : 1 ≤ n) (Bs n₀ N len cap : Nat) (ao : Option Addr) (fs : Nat → BE) (hf : ∀ j, (fs j).p < 3 ∧ -1 ≤ (fs j).sh ∧ (fs j).sh < 5000) (hlen : len ≤ 5000) (hBs : Bs < n₀) (hBN : Bs ≠ N) (w : World) (hn₀ : n₀ ≤ w.heap.size)
    (hB : w.cell? ⟨Bs, 0, none⟩ = some (.slice ao len cap)) (hrow : BRow n₀ N w ao len fs) :
    SeqStopsK Fence.wide n Yba.prog 11 #[.pointer (some ⟨Bs, 0, none⟩)] encs (Kept n₀ N) (fun ys => ys = upto (fun k => item fs hf (len - 1 - k)) len) (fun _ => True) len w := fun l J Jx W hW _ _ hY h0 =>
  back1 n hn l Bs n₀ N len cap ao fs hf hlen hBs hBN J Jx hY W ((hW.cell (p := ⟨Bs, 0, none⟩) (Nat.lt_of_lt_of_le hBs hn₀)).trans hB) (hrow.kept (kept_of_below (hW.mono hn₀))) h0
end Go.Proofs.Ybulkbpay.un
