import Derived.Test.YbulkboyuRows
import Derived.Test.YbulkboyuBitLaw
import Derived.WalkKit
import Derived.ProofKit
import Derived.OpenShut
import Derived.Handy
import Derived.BigQuiet
import Derived.Deep.QuietTactic
namespace Go.Proofs.Ybulkboyu.handed
open Go.ChangeShapes Go.WideShapes Go.ChangeAt Go.RowKit

set_option maxHeartbeats 400000 in
theorem has_any (b : Nat) (i x : Nat) (z : Int) (hz : z = (i : Int)) (w : World) (h1 : i < 64) (hxl : x < 18446744073709551616) (hx : w.cell? ⟨b, 0, none⟩ = some (.int .u64 x)) :
    Calls Yba.prog 13 #[.slice (some ⟨b, 0, none⟩) 1 1, .int .i64 z] w fun e w' => e = .returned (.bool (x.testBit i)) ∧ ∃ n, w' = w.drewN n := by
  subst hz
  have e1 : (i : Int) / 64 = 0 := by omega
  have e2 : (i : Int) % 64 = i := by omega
  have hb := and_bit x i hxl h1
  have HB : Hid (_ = _) := hb
  clear hb
  go_enter Yba.func13, Yba.ntmps13
  go_wp2
  go_quiet (fail)
  go_wp2
  go_ret
  refine ⟨?_, _, rfl⟩
  show Ending.returned (Value.bool _) = _
  rw [← HB.out]

set_option maxHeartbeats 400000 in
theorem add_lo (b : Nat) (i x : Nat) (z : Int) (hz : z = (i : Int)) (w : World) (h1 : i < 64) (hxl : x < 18446744073709551616) (hx : w.cell? ⟨b, 0, none⟩ = some (.int .u64 x)) (hf : w.frozen? ⟨b, 0, none⟩ = false) :
    Calls Yba.prog 14 #[.slice (some ⟨b, 0, none⟩) 2 2, .int .i64 z] w fun e w' => e = .returned (.tuple #[]) ∧ w' = (w.setCell ⟨b, 0, none⟩ (.int .u64 ((x ||| 2 ^ i : Nat) : Int))).drew := by
  subst hz
  have e1 : (i : Int) / 64 = 0 := by omega
  have e2 : (i : Int) % 64 = i := by omega
  rw [← or_bit x i hxl h1]
  go_enter Yba.func14, Yba.ntmps14
  go_wp2
  go_region
  go_end0
  exact ⟨rfl, rfl⟩

set_option maxHeartbeats 400000 in
theorem add_hi (b : Nat) (i x : Nat) (z : Int) (hz : z = (i : Int)) (w : World) (h0 : 64 ≤ i) (h1 : i < 128) (hxl : x < 18446744073709551616) (hx : w.cell? ⟨b, 1, none⟩ = some (.int .u64 x)) (hf : w.frozen? ⟨b, 1, none⟩ = false) :
    Calls Yba.prog 14 #[.slice (some ⟨b, 0, none⟩) 2 2, .int .i64 z] w fun e w' => e = .returned (.tuple #[]) ∧ w' = (w.setCell ⟨b, 1, none⟩ (.int .u64 ((x ||| 2 ^ (i - 64) : Nat) : Int))).drew := by
  subst hz
  obtain ⟨j, rfl⟩ : ∃ j, i = 64 + j := ⟨i - 64, by omega⟩
  have e0 : (64 + j) / 64 = 1 := by omega
  have e1 : ((64 + j : Nat) : Int) / 64 = 1 := by omega
  have e2 : ((64 + j : Nat) : Int) % 64 = j := by omega
  rw [Nat.add_sub_cancel_left, ← or_bit x j hxl (by omega)]
  go_enter Yba.func14, Yba.ntmps14
  go_wp2
  go_region
  go_end0
  exact ⟨rfl, by rw [Nat.mod_eq_of_lt (show j < 64 by omega)]⟩
end Go.Proofs.Ybulkboyu.handed
