import Derived.Test.YbulkbpayRows
import Derived.WalkKit
import Derived.ProofKit
import Derived.OpenShut
import Derived.Handy
import Derived.Maps.OwnSet
import Derived.Maps.AppendAt
namespace Go.Proofs.Ybulkbpay.un
open Go.ChangeShapes Go.WideShapes Go.ChangeAt Go.RowKit
open Go.Maps (Keyed string_keyed)
open Go.WideElems (Fit rd rg pl rd_val elemAt)

/-- the three names -/
def pf : Nat → ByteArray
  | 0 => ⟨#[]⟩
  | 1 => ⟨#[97]⟩
  | _ => ⟨#[98]⟩
def kl (i : Nat) : Lit := .string (pf i).data.toList

theorem law : Keyed Yba.prog 9 := string_keyed Yba.underlying9
theorem zero3 (w : World) : (zeroValue 3).run Yba.prog w = .ok (.int .i64 0) w := by kernel_rfl

theorem pf_size (i : Nat) : (pf i).size ≤ 1 := by
  unfold pf; split <;> decide
theorem hkey (i : Nat) : keyOf Yba.prog 9 (.string (pf i)) = some (kl i) := Go.WideMaps.keyOf_string_mk Yba.underlying9 (by have := pf_size i; unfold maxLen; omega)
theorem kl_ne {i j : Nat} (hi : i < 3) (hj : j < 3) (h : i ≠ j) : kl i ≠ kl j := by
  obtain rfl | rfl | rfl : i = 0 ∨ i = 1 ∨ i = 2 := by omega
  all_goals obtain rfl | rfl | rfl : j = 0 ∨ j = 1 ∨ j = 2 := by omega
  all_goals first | exact absurd rfl h | (simp [kl, pf])
theorem kl_key (i : Nat) : WideAt.IsKeyLit (kl i) := by
  simp [kl, WideAt.IsKeyLit]

def upd (sc : Nat → Int) (i : Nat) (z : Int) : Nat → Int := fun j => if j = i then z else sc j
def one (z : Int) : Nat := if z = -1 then 0 else 1
def cnt (sc : Nat → Int) : Nat := one (sc 0) + one (sc 1) + one (sc 2)

/-- block M is the scope's map, and reads as 'sc' (-1: the name is not there) -/
def Mp (w : World) (M : Nat) (sc : Nat → Int) : Prop :=
  ∃ D : DataW Unit, w.ownsMap Yba.prog 9 (plainElem Yba.prog 3) M 3 D ∧ Maps.size D = cnt sc ∧
    ∀ i, i < 3 → Maps.has D (kl i) = decide (sc i ≠ -1) ∧ (sc i ≠ -1 → D.atKey (kl i) (.lit (.int .i64 0)) = .lit (.int .i64 (sc i)))

theorem tight {w : World} {b n : Nat} {D : DataW Unit} (h : w.ownsMap Yba.prog 9 (plainElem Yba.prog 3) b n D) : w.ownsMap Yba.prog 9 (plainElem Yba.prog 3) b (Maps.size D) D := by
  obtain ⟨es, clock, hb, F, _, rfl⟩ := h
  refine ⟨es, clock, hb, F, ?_, rfl⟩
  simp [Maps.size, length_sorted]

theorem cnt_le (sc : Nat → Int) : cnt sc ≤ 3 := by unfold cnt one; repeat' split
                                                   all_goals omega

theorem Mp.block {w w' : World} {M : Nat} {sc : Nat → Int} (h : Mp w M sc) (hb : w'.heap[M]? = w.heap[M]?) : Mp w' M sc := by
  obtain ⟨D, ⟨es, clock, h1, r⟩, s⟩ := h
  exact ⟨D, ⟨es, clock, hb.trans h1, r⟩, s⟩

theorem Mp.lt {w : World} {M : Nat} {sc : Nat → Int} (h : Mp w M sc) : M < w.heap.size := by
  obtain ⟨D, h, _⟩ := h
  exact h.lt

theorem mp_made (w : World) : Mp (w.alloc (.map #[] 0)) w.heap.size (fun _ => -1) :=
  ⟨.map [], (World.ownsMap_made w _ _ _).mono (Nat.zero_le _), rfl, fun _ _ => ⟨rfl, fun h => absurd rfl h⟩⟩

theorem Mp.look {w : World} {M : Nat} {sc : Nat → Int} (h : Mp w M sc) {i : Nat} (hi : i < 3) :
    (Instr.lookup 33 (.map (some M)) (.string (pf i)) true).run Yba.prog w = .ok (.tuple #[.int .i64 (if sc i = -1 then 0 else sc i), .bool (decide (sc i ≠ -1))]) w := by
  obtain ⟨D, hown, _, hat⟩ := h
  obtain ⟨v, ps, hrun, hv⟩ := hown.look_ok law Yba.underlying33 (zero3 w) (plainElem_int Yba.underlying3 (by decide)) (hkey i)
  obtain ⟨h1, h2⟩ := hat i hi
  rw [hrun, h1]
  obtain ⟨a, rfl, hz, _⟩ := plainElem_int_inv Yba.underlying3 hv
  by_cases hs : sc i = -1
  · rw [Maps.atKey_of_not_has (by rw [h1]; simp [hs])] at hz
    simp only [Prod.mk.injEq, DataW.lit.injEq, Lit.int.injEq] at hz
    rw [if_pos hs, ← hz.1.2]
  · rw [h2 hs] at hz
    simp only [Prod.mk.injEq, DataW.lit.injEq, Lit.int.injEq] at hz
    rw [if_neg hs, ← hz.1.2]

theorem cnt_upd (sc : Nat → Int) {i : Nat} (hi : i < 3) (z : Int) : cnt (upd sc i z) + one (sc i) = cnt sc + one z := by
  obtain rfl | rfl | rfl : i = 0 ∨ i = 1 ∨ i = 2 := by omega
  all_goals simp [cnt, upd]; omega

theorem Mp.store {w : World} {M : Nat} {sc : Nat → Int} (h : Mp w M sc) {i : Nat} (hi : i < 3) {z : Int} (hz : (Lit.int .i64 z).wf = true) (hz1 : z ≠ -1) :
    ∃ w', (Instr.mapUpdate 33 (.map (some M)) (.string (pf i)) (.int .i64 z)).run Yba.prog w = .ok () w' ∧ Mp w' M (upd sc i z) ∧ w.mapTurned w' M := by
  obtain ⟨D, hown, hsz, hat⟩ := h
  obtain ⟨w', hrun, hown', ht⟩ := hown.store law Yba.underlying33 (by unfold maxLen; omega) (hkey i) (plainElem_int Yba.underlying3 hz)
  have hs : Maps.size (D.put (kl i) (.lit (.int .i64 z))) = cnt (upd sc i z) := by
    have := cnt_upd sc hi z
    rw [Maps.size_put (hown.tidy law), (hat i hi).1, hsz]
    unfold one at this
    rw [if_neg hz1] at this
    by_cases h0 : sc i = -1
    · simp [h0] at this ⊢; omega
    · simp [h0] at this ⊢; omega
  refine ⟨w', hrun, ⟨_, (tight hown').mono (by rw [hs]; exact cnt_le _), hs, fun j hj => ?_⟩, ht⟩
  by_cases e : j = i
  · subst e
    rw [Maps.has_put_same hown.isMap (kl_key j), Maps.atKey_put_same hown.isMap (kl_key j)]
    simp [upd, hz1]
  · rw [Maps.has_put_other (kl_ne hj hi e), Maps.atKey_put_other (kl_ne hj hi e)]
    simpa [upd, e] using hat j hj

theorem Mp.drop {w : World} {M : Nat} {sc : Nat → Int} (h : Mp w M sc) {i : Nat} (hi : i < 3) (ty : TypeId) :
    ∃ w', (Builtin.delete_ #[33, 9] ty #[.map (some M), .string (pf i)]).run Yba.prog w = .ok (.tuple #[]) w' ∧ Mp w' M (upd sc i (-1)) ∧ w.mapTurned w' M := by
  obtain ⟨D, hown, hsz, hat⟩ := h
  obtain ⟨w', hrun, hown', ht⟩ := hown.drop law Yba.underlying33 (hkey i) ty
  have hs : Maps.size (D.del (kl i)) = cnt (upd sc i (-1)) := by
    have := cnt_upd sc hi (-1)
    have h2 := Maps.size_del (k := kl i) (hown.tidy law)
    rw [(hat i hi).1, hsz] at h2
    unfold one at this
    by_cases h0 : sc i = -1
    · simp [h0] at this h2; omega
    · simp [h0] at this h2; omega
  refine ⟨w', hrun, ⟨_, hown', hs, fun j hj => ?_⟩, ht⟩
  by_cases e : j = i
  · subst e
    rw [Maps.has_del_same]
    simp [upd]
  · rw [Maps.has_del_other (kl_ne hj hi e), Maps.atKey_del_other (kl_ne hj hi e)]
    simpa [upd, e] using hat j hj

theorem Mp.len {w : World} {M : Nat} {sc : Nat → Int} (h : Mp w M sc) (ty : TypeId) : (Builtin.len_ #[33] ty #[.map (some M)]).run Yba.prog w = .ok (.int .i64 (cnt sc)) w := by
  obtain ⟨D, hown, hsz, _⟩ := h
  rw [hown.len Yba.underlying33 ty, hsz]
end Go.Proofs.Ybulkbpay.un
