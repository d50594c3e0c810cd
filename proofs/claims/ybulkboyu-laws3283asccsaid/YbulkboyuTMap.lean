import Derived.Test.YbulkboyuTarjan
import Derived.WalkKit
import Derived.ProofKit
import Derived.OpenShut
import Derived.Handy
import Derived.Maps.OwnSet
import Derived.Maps.AppendAt
namespace Go.Proofs.Ybulkboyu.scc
open Go.ChangeShapes Go.WideShapes Go.ChangeAt Go.RowKit
open Go.Maps (Keyed int_keyed)
open Go.WideElems (Fit rd rg pl rd_val elemAt)

theorem law : Keyed Yba.prog 21 := int_keyed Yba.underlying21
theorem zero3 (w : World) : (zeroValue 3).run Yba.prog w = .ok (.int .i64 0) w := by kernel_rfl
def kl (t : Int) : Lit := .int .i32 t
theorem hkey {t : Int} (ht : (Lit.int .i32 t).wf = true) : keyOf Yba.prog 21 (.int .i32 t) = some (kl t) := Go.Maps.keyOf_int_mk Yba.underlying21 ht
theorem kl_ne {i j : Int} (h : i ≠ j) : kl i ≠ kl j := fun e => h (by simpa [kl] using e)
theorem kl_key (t : Int) : WideAt.IsKeyLit (kl t) := by simp [kl, WideAt.IsKeyLit]

/-- block M is the map of the nodes: it holds the numbers below k, each under itself -/
def Mp (w : World) (M k : Nat) : Prop :=
  ∃ D : DataW Unit, w.ownsMap Yba.prog 21 (plainElem Yba.prog 3) M k D ∧
    ∀ t : Int, Maps.has D (kl t) = decide (0 ≤ t ∧ t < (k : Int)) ∧ (0 ≤ t ∧ t < (k : Int) → D.atKey (kl t) (.lit (.int .i64 0)) = .lit (.int .i64 t))

theorem Mp.block {w w' : World} {M k : Nat} (h : Mp w M k) (hb : w'.heap[M]? = w.heap[M]?) : Mp w' M k := by
  obtain ⟨D, ⟨es, clock, h1, r⟩, s⟩ := h
  exact ⟨D, ⟨es, clock, hb.trans h1, r⟩, s⟩

theorem mp_made (w : World) : Mp (w.alloc (.map #[] 0)) w.heap.size 0 :=
  ⟨.map [], (World.ownsMap_made w _ _ _).mono (Nat.zero_le _), fun t => ⟨by simp [Maps.has], fun h => by omega⟩⟩

theorem Mp.look {w : World} {M k : Nat} (h : Mp w M k) {t : Int} (ht : (Lit.int .i32 t).wf = true) :
    (Instr.lookup 80 (.map (some M)) (.int .i32 t) true).run Yba.prog w = .ok (.tuple #[.int .i64 (if 0 ≤ t ∧ t < (k : Int) then t else 0), .bool (decide (0 ≤ t ∧ t < (k : Int)))]) w := by
  obtain ⟨D, hown, hat⟩ := h
  obtain ⟨v, ps, hrun, hv⟩ := hown.look_ok law Yba.underlying80 (zero3 w) (plainElem_int Yba.underlying3 (by decide)) (hkey ht)
  obtain ⟨h1, h2⟩ := hat t
  rw [hrun, h1]
  obtain ⟨a, rfl, hz, _⟩ := plainElem_int_inv Yba.underlying3 hv
  by_cases hs : 0 ≤ t ∧ t < (k : Int)
  · rw [h2 hs] at hz
    simp only [Prod.mk.injEq, DataW.lit.injEq, Lit.int.injEq] at hz
    rw [if_pos hs, ← hz.1.2]
  · rw [Maps.atKey_of_not_has (by rw [h1]; exact decide_eq_false hs)] at hz
    simp only [Prod.mk.injEq, DataW.lit.injEq, Lit.int.injEq] at hz
    rw [if_neg hs, ← hz.1.2]

theorem Mp.store {w : World} {M k : Nat} (h : Mp w M k) (hk : k ≤ 300) :
    ∃ w', (Instr.mapUpdate 80 (.map (some M)) (.int .i32 (k : Int)) (.int .i64 (k : Int))).run Yba.prog w = .ok () w' ∧ Mp w' M (k + 1) ∧ w.mapTurned w' M := by
  obtain ⟨D, hown, hat⟩ := h
  have hw : (Lit.int .i32 (k : Int)).wf = true := by
    have e1 : IntKind.i32.min = -2147483648 := by decide
    have e2 : IntKind.i32.max = 2147483647 := by decide
    simp only [Lit.wf, e1, e2, Bool.and_eq_true, decide_eq_true_eq]; omega
  have hw2 : (Lit.int .i64 (k : Int)).wf = true := WalkArith.wf_i64 (by omega)
  obtain ⟨w', hrun, hown', ht⟩ := hown.store law Yba.underlying80 (by unfold maxLen; omega) (hkey hw) (plainElem_int Yba.underlying3 hw2)
  refine ⟨w', hrun, ⟨_, hown', fun t => ?_⟩, ht⟩
  by_cases e : t = (k : Int)
  · subst e
    rw [Maps.has_put_same hown.isMap (kl_key _), Maps.atKey_put_same hown.isMap (kl_key _)]
    exact ⟨by simp; omega, fun _ => rfl⟩
  · rw [Maps.has_put_other (kl_ne e), Maps.atKey_put_other (kl_ne e)]
    obtain ⟨h1, h2⟩ := hat t
    refine ⟨?_, fun hh => h2 (by omega)⟩
    rw [h1]
    exact decide_eq_decide.2 (by omega)
end Go.Proofs.Ybulkboyu.scc
