import Derived.Test.YbulkbpayTake
import Derived.Deep.Draws
namespace Go.Proofs.Ybulkbpay.un
open Go.ChangeShapes Go.WideShapes Go.ChangeAt Go.RowKit

theorem info42 : (Yba.prog.info? 42).map (fun i => (i.zero, i.size, i.bytes)) = some (some (.agg #[.string ⟨#[]⟩, .string ⟨#[]⟩, .string ⟨#[]⟩, .int .i64 0]), 4, 56) := by kernel_rfl
theorem info54 : (Yba.prog.info? 54).map (fun i => (i.zero, i.size, i.bytes)) = some (some (.agg #[.string ⟨#[]⟩, .string ⟨#[]⟩, .int .i64 0]), 3, 40) := by kernel_rfl
theorem info49 : (Yba.prog.info? 49).map (fun i => (i.zero, i.size, i.bytes)) = some (some (.agg #[.int .i64 0, .int .i64 0, .int .i64 0, .int .i64 0]), 4, 32) := by kernel_rfl

/-- A LAW AT THE OPERATION: append, by its run. -/
theorem wpList_append_run {P : Program} {w : World} {ops : Array Oper} {rest : List Oper} {o : Oper} {a : Act} {Q : Exit → Act → World → Prop} (hgd : o.guard = none) (s x : Operand) (t tx : TypeId)
    (ho : o.op = .call { callee := .builtin .append, args := #[s, x], argTypes := #[t, tx] }) (vs vx : Value) (hs : a.eval s = vs) (hx : a.eval x = vx) (v' : Value) (w' : World)
    (hr : (Builtin.append_ #[t, tx] o.type #[vs, vx]).run P w = .ok v' w') (h : wpList P ops Q rest (a.put o.dst v') w') : wpList P ops Q (o :: rest) a w :=
  wpList_plain hgd fun _ hK => by
    unfold Oper.wp execOp
    simp only [ho, resolve, invoke, builtin, Sem.run_bind, Sem.run_pure, Result.andThen_ok, List.map_toArray, List.map_cons, List.map_nil, hs, hx, hr]
    exact hK _ _ h

theorem own_succ {W : World} {base : Nat} {e : TypeId} {size : Nat} {v : Value} {k : Nat} {xs : List Value} (h : W.ownsRow base e size v (k + 1) xs) : ∃ g cap, v = .slice (some ⟨g, 0, none⟩) (k + 1) cap := by
  rcases h.2 with ⟨_, h0⟩ | ⟨g, cap, cur, rfl, _⟩
  · omega
  · exact ⟨g, cap, rfl⟩

theorem cells_new (w : World) (cs : Array Value) (t : TypeId) : ∀ j u, cs.toList[j]? = some u → (w.alloc (.cells cs t)).cell? ((⟨w.heap.size, 0, none⟩ : Addr).add j) = some u := by
  intro j u h
  rw [add_plain, World.cell?_alloc_at _ _ _ _ rfl, Nat.zero_add]
  simpa using h

/-- one element appended -/
theorem app1 (w : World) (base : Nat) (t e ty : TypeId) (z : Value) (size bytes : Nat) (ht : Yba.prog.underlying t = some (.slice e)) (hinfo : (Yba.prog.info? e).map (fun i => (i.zero, i.size, i.bytes)) = some (some z, size, bytes)) (hz : z.cells.size = size) (hsz : 0 < size) (hby : bytes ≤ 100)
    (ao : Option Addr) (co n : Nat) (xs : List Value) (hown : w.ownsRow base e size (.slice ao n co) n xs) (cs : Array Value) (hl : cs.size = size) (h1 : ∀ u ∈ cs.toList, u.oneCell' = true) (hn : n ≤ 5000) (hb : base ≤ w.heap.size) :
    ∃ g cap w', (Builtin.append_ #[t, t] ty #[.slice ao n co, .slice (some ⟨w.heap.size, 0, none⟩) 1 1]).run Yba.prog (w.alloc (.cells cs e)) = .ok (.slice (some ⟨g, 0, none⟩) (n + 1) cap) w' ∧
      w'.ownsRow base e size (.slice (some ⟨g, 0, none⟩) (n + 1) cap) (n + 1) (xs ++ cs.toList) ∧ w.grownBy w' (Value.slice ao n co).ownBlock := by
  obtain ⟨i, hi, hz0, hz1, hz2⟩ := info_parts hinfo
  obtain ⟨v', w', hrun, hown', hg, _, _⟩ := run_append_own_at (P := Yba.prog) (w := w.alloc (.cells cs e)) base t ty e i z size bytes ht hi hz0 hz1 hz2 hz hsz (.slice ao n co) n xs (hown.alloc _) ⟨w.heap.size, 0, none⟩ 1 1 cs.toList (by simpa using hl) (cells_new w cs e) h1
    (by unfold maxLen; omega) (by have : (n + 1) * bytes ≤ 5001 * 100 := Nat.mul_le_mul (by omega) hby
                                  omega) (by simp; omega)
  obtain ⟨g, cap, rfl⟩ := own_succ hown'
  exact ⟨g, cap, w', hrun, hown', (World.grownBy_alloc w _ _).trans hg⟩

structure OE where
  l : ByteArray
  mark : Nat
structure BE where
  p : Nat
  sp : ByteArray
  sh : Int
def oc (x : OE) : List Value := [.string x.l, .string ⟨#[110]⟩, .string x.l, .int .i64 (x.mark : Int)]
def bc (x : BE) : List Value := [.string (pf x.p), .string x.sp, .int .i64 x.sh]

/-- the reader and the snapshots: N: the heap's size when the law began; the scope's map is block N, the reader block N + 2. -/
structure St (N : Nat) (w : World) (ao ab aS : Option Addr) (co cb cs : Nat) (os : List OE) (bs : List BE) (ss : List (Nat → Int)) (sc : Nat → Int) : Prop where
  size : N + 3 ≤ w.heap.size
  c5 : ∃ b, w.cell? ⟨N + 2, 5, none⟩ = some (.bool b)
  c6 : w.cell? ⟨N + 2, 6, none⟩ = some (.slice ao os.length co)
  c7 : w.cell? ⟨N + 2, 7, none⟩ = some (.slice ab bs.length cb)
  c8 : w.cell? ⟨N + 2, 8, none⟩ = some (.map (some N))
  fr : ∀ o, w.frozen? ⟨N + 2, o, none⟩ = false
  ro : w.ownsRow (N + 3) 42 4 (.slice ao os.length co) os.length (os.flatMap oc)
  rb : w.ownsRow (N + 3) 54 3 (.slice ab bs.length cb) bs.length (bs.flatMap bc)
  rs : w.ownsRow (N + 3) 49 4 (.slice aS ss.length cs) ss.length (ss.flatMap cellsOf)
  mp : Mp w N sc

/-- two rows of different types lie in different blocks -/
theorem apart {w : World} {base e e' size size' n n' : Nat} {v v' : Value} {xs xs' : List Value} (h : w.ownsRow base e size v n xs) (h' : w.ownsRow base e' size' v' n' xs') (hne : e ≠ e') : v.ownBlock = none ∨ v.ownBlock ≠ v'.ownBlock := by
  rcases h.2 with ⟨rfl, _⟩ | ⟨g, cap, cur, rfl, _, hg, _⟩
  · exact .inl rfl
  · right
    rcases h'.2 with ⟨rfl, _⟩ | ⟨g', cap', cur', rfl, _, hg', _⟩
    · simp [Value.ownBlock]
    · intro h2
      simp [Value.ownBlock] at h2
      subst h2
      rw [hg] at hg'
      simp at hg'
      exact hne hg'.2

theorem nb (o : Option Nat) : o = none ∨ o ≠ none := by cases o <;> simp

theorem St.draw {N : Nat} {w : World} {ao ab aS : Option Addr} {co cb cs : Nat} {os : List OE} {bs : List BE} {ss : List (Nat → Int)} {sc : Nat → Int} (h : St N w ao ab aS co cb cs os bs ss sc) : St N w.drew ao ab aS co cb cs os bs ss sc :=
  ⟨h.size, h.c5, h.c6, h.c7, h.c8, h.fr, h.ro, h.rb, h.rs, h.mp.block rfl⟩

/-- what is new beyond the heap's end leaves the state -/
theorem St.below {N : Nat} {w w' : World} {ao ab aS : Option Addr} {co cb cs : Nat} {os : List OE} {bs : List BE} {ss : List (Nat → Int)} {sc : Nat → Int} (h : St N w ao ab aS co cb cs os bs ss sc) (hb : Below w.heap.size w w') : St N w' ao ab aS co cb cs os bs ss sc := by
  have hsz := h.size
  have hg : w.grownBy w' none := ⟨hb.os, hb.tape, hb.output, hb.size, fun i hi _ => hb.block i hi⟩
  have hc : ∀ o, w'.cell? ⟨N + 2, o, none⟩ = w.cell? ⟨N + 2, o, none⟩ := fun o => hb.cell (p := ⟨N + 2, o, none⟩) (by show N + 2 < _; omega)
  refine ⟨Nat.le_trans hsz hb.size, ?_, ?_, ?_, ?_, fun o => ?_, h.ro.kept hg ?_, h.rb.kept hg ?_, h.rs.kept hg ?_, h.mp.block (hb.block N (by omega))⟩
  · rw [hc]; exact h.c5
  · rw [hc]; exact h.c6
  · rw [hc]; exact h.c7
  · rw [hc]; exact h.c8
  · rw [hb.frozen (p := ⟨N + 2, o, none⟩) (by show N + 2 < _; omega)]; exact h.fr o
  all_goals exact nb _
end Go.Proofs.Ybulkbpay.un
