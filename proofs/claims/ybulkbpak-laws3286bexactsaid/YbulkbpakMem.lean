import Derived.Test.YbulkbpakRows
import Derived.WalkKit
import Derived.ProofKit
import Derived.OpenShut
import Derived.Handy
import Derived.Deep.Draws
import Derived.Deep.Upon
import Derived.Deep.AppendSrc
import Derived.Laws.IdiomStrings
import Derived.Laws.IdiomCopy
import Derived.Laws.BytesArg
/-! Rows of bytes that the call itself has made, as facts on cells. -/
namespace Go.Proofs.Ybulkbpak.ex
open Go.RowKit

structure BR (w : World) (B g cap : Nat) (xs : List UInt8) : Prop where
  lo : B ≤ g
  hi : g < w.heap.size
  le : xs.length ≤ cap
  cm : cap ≤ maxLen
  there : ∀ j, j < cap → (w.cell? ⟨g, j, none⟩).isSome = true
  fr : ∀ j, j < cap → w.frozen? ⟨g, j, none⟩ = false
  at_ : ∀ j (h : j < xs.length), w.cell? ⟨g, j, none⟩ = some (.int .u8 (xs[j].toNat : Int))

theorem BR.kept {w w' : World} {B g cap : Nat} {xs : List UInt8} (h : BR w B g cap xs) (hs : w.heap.size ≤ w'.heap.size) (hb : w'.heap[g]? = w.heap[g]?) : BR w' B g cap xs :=
  have hc : ∀ j, w'.cell? ⟨g, j, none⟩ = w.cell? ⟨g, j, none⟩ := fun j => World.cell?_of_block (a := ⟨g, j, none⟩) hb
  have hf : ∀ j, w'.frozen? ⟨g, j, none⟩ = w.frozen? ⟨g, j, none⟩ := fun j => World.frozen?_of_block (a := ⟨g, j, none⟩) hb
  ⟨h.lo, Nat.lt_of_lt_of_le h.hi hs, h.le, h.cm, fun j hj => by rw [hc]; exact h.there j hj, fun j hj => by rw [hf]; exact h.fr j hj, fun j hj => by rw [hc]; exact h.at_ j hj⟩

theorem BR.drewN {w : World} {B g cap : Nat} {xs : List UInt8} (h : BR w B g cap xs) (n : Nat) : BR (w.drewN n) B g cap xs := h.kept (Nat.le_refl _) rfl

theorem info5 : (Yba.prog.info? 5).map (fun i => (i.zero, i.size, i.bytes)) = some (some (.int .u8 0), 1, 1) := by kernel_rfl

/-- '[]byte(s)' -/
theorem conv_bytes (w : World) (s : ByteArray) (hs : s.size ≤ maxLen) : ∃ cap w1, (convert 9 29 (.string s)).run Yba.prog w = .ok (.slice (some ⟨w.heap.size, 0, none⟩) s.size cap) w1 ∧
    BR w1 w.heap.size w.heap.size cap s.data.toList ∧ w.grownBy w1 none := by
  have hr := run_bytes_of_string (P := Yba.prog) w 9 29 5 s Yba.underlying9 Yba.underlying29 Yba.underlying5
  have hge := grownCap_ge w s.size 0 5
  have hm := grownCap_le_maxLen w s.size 0 5 hs
  generalize grownCap w s.size 0 5 = cap at *
  have hsz : (bytesRow s cap).size = cap := by simp [bytesRow]; omega
  rw [hsz] at hr
  refine ⟨cap, _, hr, ?_, ⟨rfl, rfl, rfl, by simp, fun k hk _ => Below.heap_alloc _ _ _ hk⟩⟩
  have hb : (w.drew.alloc (.cells (bytesRow s cap) 5 (cap, cap + 1))).heap[w.heap.size]? = some (.cells (bytesRow s cap) 5 (cap, cap + 1)) := by
    show (w.heap.push _)[w.heap.size]? = _
    simp
  have hc : ∀ j, (w.drew.alloc (.cells (bytesRow s cap) 5 (cap, cap + 1))).cell? ⟨w.heap.size, j, none⟩ = (bytesRow s cap)[j]? := by
    intro j; unfold World.cell?; simp only [hb]; rfl
  refine ⟨Nat.le_refl _, by simp, by simpa using hge, hm, fun j hj => ?_, fun j hj => ?_, fun j hj => ?_⟩
  · rw [hc]; simp [hsz, hj]
  · unfold World.frozen?; simp only [hb]; simp; omega
  · rw [hc]
    have hj' : j < s.data.size := by simpa using hj
    have hj2 : j < s.size := hj'
    simp [bytesRow, Array.getElem?_append, hj2]

theorem add0 (g j : Nat) : (⟨g, 0, none⟩ : Addr).add j = ⟨g, j, none⟩ := by
  unfold Addr.add; split <;> simp_all

/-- 'string(b)' -/
theorem conv_string (w : World) (B g cap : Nat) (xs : List UInt8) (h : BR w B g cap xs) : (convert 29 9 (.slice (some ⟨g, 0, none⟩) xs.length cap)).run Yba.prog w = .ok (.string ⟨xs.toArray⟩) w :=
  run_convert_bytes_back w 29 9 5 ⟨g, 0, none⟩ cap xs Yba.underlying29 Yba.underlying5 Yba.underlying9 (fun j hj => by
    rw [add0]; exact h.at_ j hj)

theorem size_setCells' (b : Nat) : ∀ (vs : List Value) (o : Nat) (w : World), (w.setCells b o vs).heap.size = w.heap.size
  | [], _, _ => rfl
  | v :: r, o, w => by unfold World.setCells; rw [size_setCells' b r, World.size_setCell]
theorem tape_setCells' (b : Nat) : ∀ (vs : List Value) (o : Nat) (w : World), (w.setCells b o vs).tape = w.tape
  | [], _, _ => rfl
  | v :: r, o, w => by unfold World.setCells; rw [tape_setCells' b r, World.tape_setCell]

def cellsOf (ys : List UInt8) : List Value := ys.map fun b => Value.int .u8 (b.toNat : Int)
theorem cellsOf_length (ys : List UInt8) : (cellsOf ys).length = ys.length := by simp [cellsOf]

/-- 'append(b, ..)' onto such a row -/
theorem app_row (w : World) (B g cap : Nat) (xs ys : List UInt8) (tx : TypeId) (x : Value) (h : BR w B g cap xs) (hB : B ≤ w.heap.size) (hs : Src Yba.prog 1 tx x ys.length (cellsOf ys) w) (hb : xs.length + ys.length ≤ 140737488355328) :
    ∃ g' cap' w', (Builtin.append_ #[29, tx] 29 #[.slice (some ⟨g, 0, none⟩) xs.length cap, x]).run Yba.prog w = .ok (.slice (some ⟨g', 0, none⟩) (xs.length + ys.length) cap') w' ∧
      BR w' B g' cap' (xs ++ ys) ∧ w.grownBy w' (some g) := by
  obtain ⟨i0, hi, hz0, hz1, hz2⟩ := info_parts info5
  have hs' : Src Yba.prog i0.size tx x ys.length (cellsOf ys) w := by rw [hz1]; exact hs
  by_cases hroom : xs.length + ys.length ≤ cap
  · have hr := run_append_room_src (P := Yba.prog) w 29 tx 29 5 i0 Yba.underlying29 hi g 0 xs.length cap x ys.length (cellsOf ys) hs' hroom
      (fun j hj => by rw [cellsOf_length] at hj; rw [hz1]; simpa using h.there (xs.length + j) (by omega)) (fun j hj => by rw [cellsOf_length] at hj; rw [hz1]; simpa using h.fr (xs.length + j) (by omega))
    rw [hz1, Nat.mul_one, Nat.zero_add] at hr
    refine ⟨g, cap, _, hr, ?_, ?_⟩
    · have hin := World.cell?_setCells_in g (cellsOf ys) xs.length w (fun j hj => by rw [cellsOf_length] at hj; exact h.there _ (by omega))
      have hout := fun x hx => World.cell?_setCells_out g (cellsOf ys) xs.length w x hx
      refine ⟨h.lo, by rw [size_setCells']; exact h.hi, by simp; exact hroom, h.cm, fun j hj => ?_, fun j hj => ?_, fun j hj => ?_⟩
      · by_cases h1 : j < xs.length ∨ xs.length + ys.length ≤ j
        · rw [hout ⟨g, j, none⟩ (fun _ _ => by rw [cellsOf_length]; exact h1)]; exact h.there j hj
        · have := hin (j - xs.length) (by rw [cellsOf_length]; omega)
          rw [show xs.length + (j - xs.length) = j by omega] at this
          rw [this]; rfl
      · rw [World.frozen?_setCells]; exact h.fr j hj
      · by_cases h1 : j < xs.length
        · rw [hout ⟨g, j, none⟩ (fun _ _ => .inl h1), h.at_ j h1, List.getElem_append_left h1]
        · have hj' : j < xs.length + ys.length := by simpa using hj
          have := hin (j - xs.length) (by rw [cellsOf_length]; omega)
          rw [show xs.length + (j - xs.length) = j by omega] at this
          rw [this, List.getElem_append_right (by omega)]
          simp [cellsOf]
    · refine ⟨?_, ?_, ?_, ?_, ?_⟩
      · exact World.os_setCells w g xs.length _
      · exact tape_setCells' g _ _ w
      · exact World.output_setCells w g xs.length _
      · rw [size_setCells']; exact Nat.le_refl _
      · intro k hk hne
        exact World.heap_setCells_other w g xs.length _ hk (fun e => hne (by rw [e]))
  · have hold : (Builtin.firstCells i0.size xs.length (.slice (some ⟨g, 0, none⟩) xs.length cap)).run Yba.prog w.drew = .ok (cellsOf xs).toArray w.drew := by
      rw [hz1]
      exact run_firstCells_some w.drew 1 xs.length ⟨g, 0, none⟩ xs.length cap (cellsOf xs) (by simp [cellsOf]) (fun j v hv => by
        have hj : j < xs.length := by
          have := (List.getElem?_eq_some_iff.1 hv).1
          simpa [cellsOf] using this
        rw [add0, World.cell?_drew, h.at_ j hj]
        simp [cellsOf, List.getElem?_eq_getElem hj] at hv
        rw [hv])
    have hmax : maxLen = 9223372036854775807 := by decide
    have hr := run_append_grow_src (P := Yba.prog) w 29 tx 29 5 i0 _ Yba.underlying29 hi hz0 (some ⟨g, 0, none⟩) xs.length cap (cellsOf xs) hold x ys.length (cellsOf ys) hs' (by omega) (by omega) (growslice_fits (by omega) (by rw [hz2]; omega))
    have hge := grownCap_ge w (xs.length + ys.length) cap 5
    have hm := grownCap_le_maxLen w (xs.length + ys.length) cap 5 (by omega)
    generalize grownCap w (xs.length + ys.length) cap 5 = cap' at *
    generalize hC : (cellsOf xs ++ cellsOf ys).toArray ++ Builtin.zeroCells (Value.int .u8 0).cells (cap' - (xs.length + ys.length)) = C at hr
    have hCs : C.size = cap' := by
      rw [← hC, Array.size_append, size_zeroCells]
      have : (Value.int IntKind.u8 0).cells.size = 1 := rfl
      rw [this]
      simp [cellsOf]; omega
    refine ⟨w.heap.size, cap', _, hr, ?_, ⟨rfl, rfl, rfl, by simp, fun k hk _ => Below.heap_alloc _ _ _ hk⟩⟩
    have hc : ∀ j, (w.drew.alloc (.cells C 5)).cell? ⟨w.heap.size, j, none⟩ = C[j]? := fun j => World.cell?_alloc_new w.drew C 5 j
    refine ⟨hB, by simp, by simp; exact hge, hm, fun j hj => ?_, fun j hj => ?_, fun j hj => ?_⟩
    · rw [hc]; simp [hCs, hj]
    · exact World.frozen?_alloc_new w.drew C 5 j
    · rw [hc, ← hC]
      have hj' : j < xs.length + ys.length := by simpa using hj
      rw [Array.getElem?_append_left (by simp [cellsOf]; omega)]
      simp [cellsOf, ← List.map_append, List.getElem?_eq_getElem hj]

/-- 'append(nil, s...)', s not empty -/
theorem app_nil (w : World) (B : Nat) (s : ByteArray) (h0 : 0 < s.size) (hB : B ≤ w.heap.size) (hb : s.size ≤ 140737488355328) :
    ∃ g' cap' w', (Builtin.append_ #[29, 9] 29 #[.slice none 0 0, .string s]).run Yba.prog w = .ok (.slice (some ⟨g', 0, none⟩) s.size cap') w' ∧
      BR w' B g' cap' s.data.toList ∧ w.grownBy w' none := by
  obtain ⟨i0, hi, hz0, hz1, hz2⟩ := info_parts info5
  have hs' : Src Yba.prog i0.size 9 (.string s) s.size (byteCells s) w := by rw [hz1]; exact Src.ofString w Yba.underlying9 s
  have hold : (Builtin.firstCells i0.size 0 (.slice none 0 0)).run Yba.prog w.drew = .ok ([] : List Value).toArray w.drew := run_firstCells_none w.drew i0.size 0 0 0
  have hmax : maxLen = 9223372036854775807 := by decide
  have hr := run_append_grow_src (P := Yba.prog) w 29 9 29 5 i0 _ Yba.underlying29 hi hz0 none 0 0 [] hold (.string s) s.size (byteCells s) hs' (by omega) (by omega) (growslice_fits (by omega) (by rw [hz2]; omega))
  rw [Nat.zero_add] at hr
  have hge := grownCap_ge w s.size 0 5
  have hm := grownCap_le_maxLen w s.size 0 5 (by omega)
  generalize grownCap w s.size 0 5 = cap' at *
  generalize hC : ([] ++ byteCells s).toArray ++ Builtin.zeroCells (Value.int .u8 0).cells (cap' - s.size) = C at hr
  have hbl := byteCells_length s
  have hCs : C.size = cap' := by
    rw [← hC, Array.size_append, size_zeroCells]
    have : (Value.int IntKind.u8 0).cells.size = 1 := rfl
    rw [this]
    simp [hbl]; omega
  refine ⟨w.heap.size, cap', _, hr, ?_, ⟨rfl, rfl, rfl, by simp, fun k hk _ => Below.heap_alloc _ _ _ hk⟩⟩
  have hc : ∀ j, (w.drew.alloc (.cells C 5)).cell? ⟨w.heap.size, j, none⟩ = C[j]? := fun j => World.cell?_alloc_new w.drew C 5 j
  refine ⟨hB, by simp, by simpa using hge, hm, fun j hj => ?_, fun j hj => ?_, fun j hj => ?_⟩
  · rw [hc]; simp [hCs, hj]
  · exact World.frozen?_alloc_new w.drew C 5 j
  · rw [hc, ← hC]
    have hj' : j < s.size := by simpa using hj
    rw [Array.getElem?_append_left (by simp [hbl]; exact hj')]
    simp [byteCells, hj']

/-- A LAW AT THE OPERATION: append, by its run. -/
theorem wpList_append_run {P : Program} {w : World} {ops : Array Oper} {rest : List Oper} {o : Oper} {a : Act} {Q : Exit → Act → World → Prop} (hgd : o.guard = none) (s x : Operand) (t tx : TypeId)
    (ho : o.op = .call { callee := .builtin .append, args := #[s, x], argTypes := #[t, tx] }) (vs vx : Value) (hs : a.eval s = vs) (hx : a.eval x = vx) (v' : Value) (w' : World)
    (hr : (Builtin.append_ #[t, tx] o.type #[vs, vx]).run P w = .ok v' w') (h : wpList P ops Q rest (a.put o.dst v') w') : wpList P ops Q (o :: rest) a w :=
  wpList_plain hgd fun _ hK => by
    unfold Oper.wp execOp
    simp only [ho, resolve, invoke, builtin, Sem.run_bind, Sem.run_pure, Result.andThen_ok, List.map_toArray, List.map_cons, List.map_nil, hs, hx, hr]
    exact hK _ _ h

/-- one byte stored -/
theorem BR.set {w : World} {B g cap : Nat} {xs : List UInt8} (h : BR w B g cap xs) (k : Nat) (hk : k < xs.length) (v : UInt8) : BR (w.setCell ⟨g, k, none⟩ (.int .u8 (v.toNat : Int))) B g cap (xs.set k v) := by
  have hle := h.le
  refine ⟨h.lo, by rw [World.size_setCell]; exact h.hi, by simpa using h.le, h.cm, fun j hj => ?_, fun j hj => ?_, fun j hj => ?_⟩
  · by_cases e : k = j
    · subst e; rw [World.cell?_setCell_same _ _ _ (h.at_ k hk)]; rfl
    · rw [World.cell?_setCell_other _ _ _ _ (by simp)]; exact h.there j hj
  · rw [World.frozen?_setCell]; exact h.fr j hj
  · have hj' : j < xs.length := by simpa using hj
    by_cases e : k = j
    · subst e; rw [World.cell?_setCell_same _ _ _ (h.at_ k hk)]; simp
    · rw [World.cell?_setCell_other _ _ _ _ (by simp), h.at_ j hj']; simp [e]
end Go.Proofs.Ybulkbpak.ex
