import Derived.Test.YbulkbpbmNear
/-! The law near 0: exp, Ldexp, and the comparisons. No Go text here. -/
namespace Go.Proofs.Ybulkbpbm.fl
open Ieee

theorem wd_f (r : Nat) : wd false r = r := rfl
theorem wd_t (r : Nat) : wd true r = 9223372036854775808 + r := rfl

theorem mul_one' (s : Bool) (b : Nat) (hb : b < inf) : double.mul one (wd s b) = some (wd s b) := by
  obtain ⟨c, m1, m2, m3, m4⟩ := mul_bounds false s one b one_inf hb
  have e : V one * V b = V b * 2 ^ sc := by rw [V_one, Nat.mul_comm]
  have h1 := m3 b (Nat.le_of_eq e)
  have h2 := m4 b (Nat.le_of_lt hb) (Nat.le_of_eq e.symm)
  have : c = b := Nat.le_antisymm h1 h2
  subst this
  rw [wd_f, Bool.false_xor] at m1
  exact m1

theorem mul_zero' (s : Bool) (b : Nat) (hb : b < inf) : double.mul (wd s 0) b = some (wd s 0) := by
  obtain ⟨c, m1, m2, m3, m4⟩ := mul_bounds s false 0 b (by decide) hb
  have h1 := m3 0 (by rw [V_zero]; simp)
  have : c = 0 := by omega
  subst this
  rw [wd_f, Bool.xor_false] at m1
  exact m1

theorem abs_wd (s : Bool) (b : Nat) (hb : b < inf) : absP (wd s b) = wd false b := by
  unfold absP inf at *
  cases s
  · simp only [wd]; simp; omega
  · simp only [wd]; simp; omega

theorem eF_wd (s : Bool) (b : Nat) (hb : b < inf) : eF (wd s b) = b / 4503599627370496 := by
  unfold eF inf at *
  cases s
  · simp only [wd]; simp; omega
  · simp only [wd]; simp; omega

theorem sign_wd (s : Bool) (b : Nat) (hb : b < inf) : wd s b / 9223372036854775808 * 9223372036854775808 = wd s 0 := by
  unfold inf at *
  cases s
  · simp only [wd]; simp; omega
  · simp only [wd]; simp; omega

theorem frac_wd (s : Bool) (b : Nat) : wd s b % 4503599627370496 = b % 4503599627370496 := by
  cases s
  · rfl
  · simp only [wd]; simp; omega

/-- Ldexp moves a normal number to another binade -/
theorem ldexp_exact (s : Bool) (b b' : Nat) (k : Int) (h0 : 4503599627370496 ≤ b) (hb : b < inf) (k0 : -5000 ≤ k) (k1 : k ≤ 5000) (k2 : 1 ≤ ((b / 4503599627370496 : Nat) : Int) + k) (k3 : ((b / 4503599627370496 : Nat) : Int) + k ≤ 2046)
    (hb' : (b' : Int) = b + k * 4503599627370496) : ldexpO (wd s b) k = some (wd s b') := by
  have hpos : 0 < V b := by have := V_lt (show 0 < b by omega); omega
  have hbi : b ≤ 9218868437227405311 := by unfold inf at hb; omega
  have hb'i : b' < inf := by unfold inf at *; omega
  unfold ldexpO
  rw [abs_wd s b hb, eF_wd s b hb, sign_wd s b hb, frac_wd]
  have c1 : isEq (wd s b) 0 = false := by
    rw [← wd_f 0]
    refine eq_no hb (by decide) ?_
    rw [V_zero]; unfold sv; cases s <;> simp <;> omega
  have c2 : isGt (wd false b) 9218868437227405311 = false := by
    rw [← wd_f 9218868437227405311]
    refine gt_no hb (by decide) ?_
    unfold sv; simp only [Bool.false_eq_true, if_false]
    have := V_leq hbi; omega
  have c3 : isEq (wd s b) (wd s b) = true := eq_yes hb hb rfl
  have c4 : isLt (wd false b) 4503599627370496 = false := by
    rw [← wd_f 4503599627370496]
    refine lt_no hb (by decide) ?_
    unfold sv; simp only [Bool.false_eq_true, if_false]
    have := V_leq h0; omega
  rw [if_pos ⟨c1, c2, c3, c4, k0, k1, k2, k3⟩]
  have e : wd s 0 + (((b / 4503599627370496 : Nat) : Int) + k).toNat * 4503599627370496 + b % 4503599627370496 = wd s b' := by
    have e2 : (((b / 4503599627370496 : Nat) : Int) + k).toNat * 4503599627370496 + b % 4503599627370496 = b' := by omega
    rw [Nat.add_assoc, e2]
    cases s
    · simp only [wd]; simp
    · simp only [wd]; simp
  rw [e]
  exact mul_one' s b' hb'i

def ln2 : Nat := 4604418534313441775
def r716 : Nat := 4601552919265804288
def xm : Nat := 4599075939470750515
theorem ln2_read : double.read ln2 = .number false 6243314768165359 (-53) := by decide +kernel
def s70 : Nat := 1070
theorem V_716 : V r716 = 7 * 2 ^ s70 := by decide +kernel

theorem V_xm2 : V xm ≤ 2 ^ sh := by decide +kernel
def s22 : Nat := 1022
theorem s22_eq : s22 = 1022 := rfl
theorem not22 : ¬ (4503599627370496 * 2 ^ s22 ≤ 2 ^ sh) := by decide +kernel
def s17 : Nat := 1017
theorem s17_eq : s17 = 1017 := rfl
theorem V_xm : V xm ≤ 7 * 2 ^ s17 * 6243314768165359 := by decide +kernel

theorem div_ln2 (s : Bool) (a : Nat) (ha : a ≤ xm) (hn : a = 0 ∨ 4503599627370496 ≤ a) : ∃ c, double.div (wd s a) ln2 = some (wd s c) ∧ c ≤ r716 := by
  have hai : a < inf := by unfold xm inf at *; omega
  obtain ⟨m, i, more, c, v1, i1, i2, hmore, m1, n1, _, hd, _, h3⟩ := div_gen s a ln2 _ _ hai ln2_read (by decide) (by decide) (by decide) (by decide)
  refine ⟨c, hd, ?_⟩
  rcases hn with h0 | hn
  · have hm : m = 0 := by
      rw [h0, V_zero] at v1
      rcases Nat.mul_eq_zero.1 v1 with h | h
      · exact h
      · exact absurd h (Nat.ne_of_gt (Nat.pow_pos (by decide)))
    exact h3 r716 0 (by rw [hm]; simp) (by simp)
  · have hm := n1 hn
    have hlg : m.log2 = 52 := log2_52 hm m1
    have hmr : more = 54 := by omega
    subst hmr
    have hv : V a ≤ 7 * 2 ^ s17 * 6243314768165359 := Nat.le_trans (V_leq ha) V_xm
    have hsc := sc_eq
    have hs7 : s70 = 1070 := rfl
    have hs17 := s17_eq
    have hi : i ≤ -53 := by
      have h4 : V a ≤ 2 ^ sh := Nat.le_trans (V_leq ha) V_xm2
      rcases Int.lt_or_le (-53) i with h | h
      · exfalso
        have h5 : 4503599627370496 * 2 ^ s22 ≤ m * 2 ^ (i + 1074).toNat := Nat.mul_le_mul hm (pow_le' (by rw [s22_eq]; omega))
        rw [v1] at h5
        exact not22 (Nat.le_trans h5 h4)
      · exact h
    obtain ⟨I, hI⟩ : ∃ I : Nat, i = -(I : Int) := ⟨(-i).toNat, by omega⟩
    refine h3 r716 (7 * 2 ^ (I - 3)) ?_ ?_
    · -- m * 2 ^ 54 ≤ 7 * 2 ^ (I - 3) * mn
      have h7 : m * 2 ^ 54 * 2 ^ (i + 1074).toNat ≤ 7 * 2 ^ (I - 3) * 6243314768165359 * 2 ^ (i + 1074).toNat := by
        rw [Nat.mul_right_comm, v1]
        refine Nat.le_trans (Nat.mul_le_mul_right _ hv) ?_
        have e : 2 ^ (I - 3) * 2 ^ (i + 1074).toNat = 2 ^ s17 * 2 ^ 54 := by
          rw [← Nat.pow_add, ← Nat.pow_add]; congr 1; omega
        generalize (2 : Nat) ^ s17 = p17 at *
        generalize (2 : Nat) ^ 54 = p54 at *
        generalize 2 ^ (I - 3) = pI at *
        generalize 2 ^ (i + 1074).toNat = pi at *
        have e2 : 7 * pI * 6243314768165359 * pi = 7 * 6243314768165359 * (pI * pi) := by
          rw [Nat.mul_right_comm 7 pI, Nat.mul_assoc (7 * 6243314768165359)]
        have e3 : 7 * p17 * 6243314768165359 * p54 = 7 * 6243314768165359 * (p17 * p54) := by
          rw [Nat.mul_right_comm 7 p17, Nat.mul_assoc (7 * 6243314768165359)]
        rw [e2, e3, e]
        exact Nat.le_refl _
      exact Nat.le_of_mul_le_mul_right h7 (Nat.pow_pos (by decide))
    · rw [V_716, ← Nat.mul_assoc 2, Nat.mul_comm 2 7, Nat.mul_assoc 7, Nat.mul_assoc 7, Nat.mul_assoc 7, Nat.mul_comm 2, ← pow_s, ← Nat.pow_add, ← Nat.pow_add]
      exact Nat.mul_le_mul_left _ (pow_le' (by omega))
end Go.Proofs.Ybulkbpbm.fl
