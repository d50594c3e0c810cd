import Derived.Test.YbulkboyuRows
import Derived.WalkKit
import Derived.ProofKit
import Derived.OpenShut
import Derived.ShutString
namespace Go.Proofs.Ybulkboyu.ops
open Go.ChangeShapes Go.WideShapes Go.ChangeAt Go.RowKit
/-- how many values the atomic operation numbered n pops above its reference -/
def ao (n : Int) : Int := if n = 44 then 2 else if n = 41 ∨ n = 42 ∨ n = 43 then 1 else 0
theorem ret_int {k : IntKind} {a b : Int} (h : a = b) : Ending.returned (.int k a) = .returned (.int k b) := by rw [h]

set_option maxHeartbeats 400000 in
theorem operands (n : Int) (w : World) :
    Calls Yba.prog 9 #[.int .u8 n] w fun e w' => e = .returned (.int .i64 (ao n)) ∧ w' = w := by
  by_cases h1 : n = 41
  · subst h1
    go_enter Yba.func9, Yba.ntmps9
    go_wp2
    go_ret
    exact ⟨rfl, rfl⟩
  by_cases h2 : n = 42
  · subst h2
    go_enter Yba.func9, Yba.ntmps9
    go_wp2
    go_ret
    exact ⟨rfl, rfl⟩
  by_cases h3 : n = 43
  · subst h3
    go_enter Yba.func9, Yba.ntmps9
    go_wp2
    go_ret
    exact ⟨rfl, rfl⟩
  by_cases h4 : n = 44
  · subst h4
    go_enter Yba.func9, Yba.ntmps9
    go_wp2
    go_ret
    exact ⟨rfl, rfl⟩
  have e1 : (n == 41) = false := beq_eq_false_iff_ne.2 h1
  have e2 : (n == 42) = false := beq_eq_false_iff_ne.2 h2
  have e3 : (n == 43) = false := beq_eq_false_iff_ne.2 h3
  have e4 : (n == 44) = false := beq_eq_false_iff_ne.2 h4
  have ha : ao n = 0 := by simp [ao, h1, h2, h3, h4]
  rw [ha]
  clear h1 h2 h3 h4 ha
  go_enter Yba.func9, Yba.ntmps9
  go_wp2
  go_ret
  exact ⟨rfl, rfl⟩

set_option maxHeartbeats 400000 in
theorem wants (n : Int) (w : World) :
    Calls Yba.prog 10 #[.int .u8 n] w fun e w' => e = .returned (.int .i64 (ao n)) ∧ w' = w := by
  by_cases h1 : n = 41
  · subst h1
    go_enter Yba.func10, Yba.ntmps10
    go_wp2
    go_ret
    exact ⟨rfl, rfl⟩
  by_cases h2 : n = 42
  · subst h2
    go_enter Yba.func10, Yba.ntmps10
    go_wp2
    go_ret
    exact ⟨rfl, rfl⟩
  by_cases h3 : n = 43
  · subst h3
    go_enter Yba.func10, Yba.ntmps10
    go_wp2
    go_ret
    exact ⟨rfl, rfl⟩
  by_cases h4 : n = 44
  · subst h4
    go_enter Yba.func10, Yba.ntmps10
    go_wp2
    go_ret
    exact ⟨rfl, rfl⟩
  have e1 : (n == 41) = false := beq_eq_false_iff_ne.2 h1
  have e2 : (n == 42) = false := beq_eq_false_iff_ne.2 h2
  have e3 : (n == 43) = false := beq_eq_false_iff_ne.2 h3
  have e4 : (n == 44) = false := beq_eq_false_iff_ne.2 h4
  have ha : ao n = 0 := by simp [ao, h1, h2, h3, h4]
  rw [ha]
  clear h1 h2 h3 h4 ha
  go_enter Yba.func10, Yba.ntmps10
  go_wp2
  go_ret
  exact ⟨rfl, rfl⟩
end Go.Proofs.Ybulkboyu.ops
