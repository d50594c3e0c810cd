import Derived.Test.YbulkbpbmNear3
/-! What Ldexp is handed. No Go text here. -/
namespace Go.Proofs.Ybulkbpbm.fl
open Ieee

def cMicro : Nat := 4517329193108106637
def r3e5 : Nat := 4688897573220515840
theorem V_r3e5 : V r3e5 = 300000 * 2 ^ sc := by decide +kernel
theorem V_up : V r3e5 * V cMicro ≤ V xm * 2 ^ sc := by decide +kernel

theorem ofInt_bounds (m : Int) (h0 : m ≠ 0) (h1 : -300000 ≤ m) (h2 : m ≤ 300000) : ∃ F, floatOfInt .f64 m = wd (decide (m < 0)) F ∧ one ≤ F ∧ F ≤ r3e5 := by
  obtain ⟨c, e1, e2, e3, e4⟩ := near_any_bounds (decide (m < 0)) m.natAbs 0 (by omega)
  have hsc := sc_eq
  have hp : (2 : Nat) ^ ((0 : Int) + 2148).toNat = 2 ^ sc * 2 ^ sc := by rw [← Nat.pow_add, show ((0 : Int) + 2148).toNat = sc + sc by omega]
  rw [hp] at e3 e4
  refine ⟨c, e1, e4 one (Nat.le_of_lt one_inf) ?_, e3 r3e5 ?_⟩
  · rw [V_one]
    have : 1 * (2 ^ sc * 2 ^ sc) ≤ m.natAbs * (2 ^ sc * 2 ^ sc) := Nat.mul_le_mul_right _ (by omega)
    rw [Nat.one_mul] at this
    exact this
  · rw [V_r3e5, Nat.mul_assoc]
    exact Nat.mul_le_mul_right _ (by omega)

theorem x0_bounds (m : Int) (h0 : m ≠ 0) (h1 : -300000 ≤ m) (h2 : m ≤ 300000) : ∃ x, double.mul (floatOfInt .f64 m) cMicro = some (wd (decide (m < 0)) x) ∧ cMicro ≤ x ∧ x ≤ xm := by
  obtain ⟨F, f1, f2, f3⟩ := ofInt_bounds m h0 h1 h2
  have hF : F < inf := by unfold r3e5 inf at *; omega
  obtain ⟨x, m1, m2, m3, m4⟩ := mul_bounds (decide (m < 0)) false F cMicro hF (by decide)
  rw [wd_f, Bool.xor_false] at m1
  refine ⟨x, by rw [f1]; exact m1, m4 cMicro (by decide) ?_, m3 xm ?_⟩
  · have := V_leq f2
    rw [V_one] at this
    rw [Nat.mul_comm (V F)]
    exact Nat.mul_le_mul_left _ this
  · exact Nat.le_trans (Nat.mul_le_mul_right _ (V_leq f3)) V_up

theorem x0_zero : double.mul (floatOfInt .f64 0) cMicro = some 0 := by decide +kernel

/-- Ldexp of it, down by fewer than 60 binades -/
theorem ldexp_x (s : Bool) (x : Nat) (k : Nat) (hk : k < 60) (h1 : cMicro ≤ x) (h2 : x ≤ xm) : ldexpO (wd s x) (-(k : Int)) = some (wd s (x - k * 4503599627370496)) := by
  unfold cMicro at h1
  unfold xm at h2
  exact ldexp_exact s x _ _ (by omega) (by unfold inf; omega) (by omega) (by omega) (by omega) (by omega) (by omega)
theorem x_low (x k : Nat) (hk : k < 60) (h1 : cMicro ≤ x) : 9007199254740992 ≤ x - k * 4503599627370496 := by unfold cMicro at h1; omega
end Go.Proofs.Ybulkbpbm.fl
