import Derived.WalkKit
import Derived.Laws.BitsAllLaws
/-! Plain facts on 64-bit words as numbers: no Go text here. -/
namespace Go.Proofs.Ybulkboyu.handed

theorem pow_wrap (i : Nat) (h : i < 64) : IntKind.u64.wrap ((2 : Int) ^ i) = ((2 ^ i : Nat) : Int) := by
  have hlt : (2 : Nat) ^ i < 2 ^ 64 := Nat.pow_lt_pow_right (by decide) h
  have hc : ((2 : Int) ^ i) = ((2 ^ i : Nat) : Int) := by simp
  rw [hc, IntKind.wrap_u64]
  generalize (2 : Nat) ^ i = p at *
  omega

theorem and_bit (x i : Nat) (hx : x < 18446744073709551616) (h : i < 64) :
    (bits .and .u64 (x : Int) (IntKind.u64.wrap ((2 : Int) ^ i)) != 0) = x.testBit i := by
  have hlt : (2 : Nat) ^ i < 2 ^ 64 := Nat.pow_lt_pow_right (by decide) h
  rw [pow_wrap i h, u64_and_nat x (2 ^ i) hx (by simpa using hlt), nat_bit]
  have hp : 0 < 2 ^ i := Nat.pow_pos (by decide)
  rw [Nat.testBit_eq_decide_div_mod_eq]
  rcases Nat.mod_two_eq_zero_or_one (x / 2 ^ i) with e | e
  · simp [e]
  · rw [e, Nat.one_mul]
    simp only [decide_true]
    exact bne_iff_ne.2 (by generalize (2 : Nat) ^ i = p at *; omega)

theorem or_bit (x i : Nat) (hx : x < 18446744073709551616) (h : i < 64) :
    bits .or .u64 (x : Int) (IntKind.u64.wrap ((2 : Int) ^ i)) = ((x ||| 2 ^ i : Nat) : Int) := by
  have hlt : (2 : Nat) ^ i < 2 ^ 64 := Nat.pow_lt_pow_right (by decide) h
  rw [pow_wrap i h, u64_or_nat x (2 ^ i) hx (by simpa using hlt)]

theorem or_lt (x i : Nat) (hx : x < 18446744073709551616) (h : i < 64) : x ||| 2 ^ i < 18446744073709551616 := by
  have hlt : (2 : Nat) ^ i < 2 ^ 64 := Nat.pow_lt_pow_right (by decide) h
  exact Nat.or_lt_two_pow (n := 64) hx hlt

/-- two words of bits: bit k of the pair -/
def bitOf (s : Nat × Nat) (k : Nat) : Bool := if k < 64 then s.1.testBit k else s.2.testBit (k - 64)
/-- bit k set -/
def put (s : Nat × Nat) (k : Nat) : Nat × Nat := if k < 64 then (s.1 ||| 2 ^ k, s.2) else (s.1, s.2 ||| 2 ^ (k - 64))
/-- after i rounds -/
def gath (x q f : Nat) (s : Nat × Nat) : Nat → Nat × Nat
  | 0 => s
  | i + 1 => if x.testBit (q + i) then put (gath x q f s i) (f + i) else gath x q f s i

theorem put_lt (s : Nat × Nat) (k : Nat) (h1 : s.1 < 18446744073709551616) (h2 : s.2 < 18446744073709551616) (hk : k < 128) :
    (put s k).1 < 18446744073709551616 ∧ (put s k).2 < 18446744073709551616 := by
  unfold put
  split
  · exact ⟨or_lt _ _ h1 (by omega), h2⟩
  · exact ⟨h1, or_lt _ _ h2 (by omega)⟩

theorem gath_lt (x q f : Nat) (s : Nat × Nat) (h1 : s.1 < 18446744073709551616) (h2 : s.2 < 18446744073709551616) (i : Nat) (hi : f + i ≤ 128) :
    (gath x q f s i).1 < 18446744073709551616 ∧ (gath x q f s i).2 < 18446744073709551616 := by
  induction i with
  | zero => exact ⟨h1, h2⟩
  | succ i ih =>
    have := ih (by omega)
    unfold gath
    split
    · exact put_lt _ _ this.1 this.2 (by omega)
    · exact this

theorem bitOf_put (s : Nat × Nat) (k j : Nat) : bitOf (put s k) j = (bitOf s j || decide (j = k)) := by
  unfold bitOf put
  by_cases hk : k < 64
  · by_cases hj : j < 64
    · simp only [hk, hj, if_true, Nat.testBit_or, Nat.testBit_two_pow]
      congr 1
      simp [eq_comm]
    · simp only [hk, hj, if_true, if_false]
      have : ¬ j = k := by omega
      simp [this]
  · by_cases hj : j < 64
    · simp only [hk, hj, if_true, if_false]
      have : ¬ j = k := by omega
      simp [this]
    · simp only [hk, hj, if_false, Nat.testBit_or, Nat.testBit_two_pow]
      congr 1
      have e : (k - 64 = j - 64) = (j = k) := by apply propext; omega
      simp [e]

theorem bitOf_gath (x q f : Nat) (s : Nat × Nat) (i j : Nat) :
    bitOf (gath x q f s i) j = (bitOf s j || (decide (f ≤ j) && decide (j - f < i) && x.testBit (q + (j - f)))) := by
  induction i with
  | zero => simp [gath]
  | succ i ih =>
    unfold gath
    by_cases hx : x.testBit (q + i) = true
    · rw [if_pos hx, bitOf_put, ih]
      by_cases hj : j = f + i
      · subst hj
        simp [hx, Nat.add_sub_cancel_left]
      · have e : (decide (f ≤ j) && decide (j - f < i + 1)) = (decide (f ≤ j) && decide (j - f < i)) := by
          rw [Bool.eq_iff_iff]; simp; omega
        rw [e]
        simp [hj]
    · rw [if_neg hx, ih]
      by_cases hj : j = f + i
      · subst hj
        simp [hx, Nat.add_sub_cancel_left]
      · have e : (decide (f ≤ j) && decide (j - f < i + 1)) = (decide (f ≤ j) && decide (j - f < i)) := by
          rw [Bool.eq_iff_iff]; simp; omega
        rw [e]
end Go.Proofs.Ybulkboyu.handed
