import Derived.Test.YbulkbpbmRound
import Derived.Test.YbulkbpbmPlain
/-! Bounds of float64's operations, in terms of signs and rungs. No Go text here. -/
namespace Go.Proofs.Ybulkbpbm.fl
open Ieee

def inf : Nat := 9218868437227405312
def half : Nat := 4602678819172646912
def two : Nat := 4611686018427387904
/-- the word of a sign and a rung -/
def wd (s : Bool) (r : Nat) : Nat := if s then 9223372036854775808 + r else r

theorem word_wd (s : Bool) (r : Nat) : double.word s r = wd s r := by
  obtain ⟨d1, d2, d3, d4, d5⟩ := double_values
  unfold Format.word wd
  rw [d5]

theorem near_any_bounds (neg : Bool) (mag : Nat) (place : Int) (hp : -2148 ≤ place) :
    ∃ rung, double.nearest neg mag place = wd neg rung ∧ rung ≤ inf ∧
      (∀ r, mag * 2 ^ (place + 2148).toNat ≤ V r * 2 ^ sc → rung ≤ r) ∧
      (∀ r, r ≤ inf → V r * 2 ^ sc ≤ mag * 2 ^ (place + 2148).toNat → r ≤ rung) := by
  by_cases hm : mag = 0
  · subst hm
    refine ⟨0, ?_, by decide, fun r _ => Nat.zero_le _, fun r _ h => ?_⟩
    · unfold Format.nearest; rw [if_pos rfl]; exact word_wd neg 0
    · rcases Nat.eq_zero_or_pos r with e | e
      · omega
      · have h1 := V_lt e
        have h2 : 0 < V r * 2 ^ sc := Nat.mul_pos (by omega) (Nat.pow_pos (by decide))
        rw [Nat.zero_mul] at h
        omega
  · obtain ⟨rung, h1, h2, h3, h4⟩ := nearest_bounds neg mag place hm hp
    exact ⟨rung, h1.trans (word_wd neg rung), h2, h3, h4⟩

/-- a finite word read -/
theorem read_wd (s : Bool) (r : Nat) (h : r < inf) : ∃ m i, double.read (wd s r) = .number s m i ∧ -1074 ≤ i ∧ i ≤ 971 ∧ m * 2 ^ (i + 1074).toNat = V r ∧ m < 9007199254740992 ∧ (4503599627370496 ≤ r → 4503599627370496 ≤ m) := by
  obtain ⟨d1, d2, d3, d4, d5⟩ := double_values
  unfold inf at h
  have hs : (wd s r / 9223372036854775808 % 2 == 1) = s := by
    cases s
    · simp only [wd]; simp; omega
    · simp only [wd]; simp; omega
  have hr : wd s r % 9223372036854775808 = r := by
    cases s
    · simp only [wd]; simp; omega
    · simp only [wd]; simp; omega
  unfold Format.read
  dsimp only
  rw [d1, d3, d4, d5, hs, hr]
  by_cases h1 : r < 4503599627370496
  · rw [if_pos h1]
    exact ⟨r, -1074, rfl, by omega, by omega, by simp [V, h1], by omega, by omega⟩
  · rw [if_neg h1, if_pos h]
    refine ⟨_, _, rfl, by omega, by omega, ?_, by omega, by omega⟩
    rw [show (-1074 + ((r / 4503599627370496 - 1 : Nat) : Int) + 1074).toNat = r / 4503599627370496 - 1 by omega]
    simp [V, h1]

theorem mul_bounds (s t : Bool) (a b : Nat) (ha : a < inf) (hb : b < inf) :
    ∃ c, double.mul (wd s a) (wd t b) = some (wd (s ^^ t) c) ∧ c ≤ inf ∧ (∀ r, V a * V b ≤ V r * 2 ^ sc → c ≤ r) ∧ (∀ r, r ≤ inf → V r * 2 ^ sc ≤ V a * V b → r ≤ c) := by
  obtain ⟨m, i, r1, i1, i2, v1, m1, n1⟩ := read_wd s a ha
  obtain ⟨n, j, r2, j1, j2, v2, m2, n2⟩ := read_wd t b hb
  have e : m * n * 2 ^ (i + j + 2148).toNat = V a * V b := by
    rw [← v1, ← v2, show (i + j + 2148).toNat = (i + 1074).toNat + (j + 1074).toNat by omega, Nat.pow_add]
    rw [Nat.mul_assoc, Nat.mul_assoc]
    congr 1
    rw [Nat.mul_left_comm]
  obtain ⟨c, h1, h2, h3, h4⟩ := near_any_bounds (s ^^ t) (m * n) (i + j) (by omega)
  rw [e] at h3 h4
  refine ⟨c, ?_, h2, h3, h4⟩
  unfold Format.mul
  rw [r1, r2]
  simp only [Datum.product, Option.map_some, Format.write, h1]

/-- what is exact stays -/
theorem near_exact (neg : Bool) (mag : Nat) (place : Int) (hp : -2148 ≤ place) (r : Nat) (hr : r ≤ inf) (h : mag * 2 ^ (place + 2148).toNat = V r * 2 ^ sc) : double.nearest neg mag place = wd neg r := by
  obtain ⟨c, h1, h2, h3, h4⟩ := near_any_bounds neg mag place hp
  have e1 := h3 r (Nat.le_of_eq h)
  have e2 := h4 r hr (Nat.le_of_eq h.symm)
  rw [h1, Nat.le_antisymm e1 e2]

/-- a sum of two of one sign -/
theorem signed_eq (s : Bool) (m up : Nat) : signed s m up = if s then -((m * 2 ^ up : Nat) : Int) else ((m * 2 ^ up : Nat) : Int) := by
  unfold signed; simp only [Nat.shiftLeft_eq]

theorem sum_pow (m : Nat) (i base : Int) (hb : base ≤ i) (h0 : -1074 ≤ base) : m * 2 ^ (i - base).toNat * 2 ^ (base + 1074).toNat = m * 2 ^ (i + 1074).toNat := by
  rw [Nat.mul_assoc, ← Nat.pow_add, show (i - base).toNat + (base + 1074).toNat = (i + 1074).toNat by omega]

theorem up_sc (x : Nat) (base : Int) (h0 : -1074 ≤ base) : x * 2 ^ (base + 2148).toNat = x * 2 ^ (base + 1074).toNat * 2 ^ sc := by
  rw [Nat.mul_assoc, ← Nat.pow_add, show (base + 1074).toNat + sc = (base + 2148).toNat by rw [sc_eq]; omega]

/-- 1 + b, b not negative -/
theorem add_pos (a b : Nat) (ha : a < inf) (hb : b < inf) (hpos : 0 < V a) :
    ∃ c, double.add (wd false a) (wd false b) = some (wd false c) ∧ c ≤ inf ∧ (∀ r, V a + V b ≤ V r → c ≤ r) ∧ (∀ r, r ≤ inf → V r ≤ V a + V b → r ≤ c) := by
  obtain ⟨m, i, r1, i1, i2, v1, m1, n1⟩ := read_wd false a ha
  obtain ⟨n, j, r2, j1, j2, v2, m2, n2⟩ := read_wd false b hb
  obtain ⟨base, hbase⟩ : ∃ base : Int, base = min i j := ⟨_, rfl⟩
  have b0 : -1074 ≤ base := by omega
  have b1 : base ≤ i := by omega
  have b2 : base ≤ j := by omega
  have e1 := sum_pow m i base b1 b0
  have e2 := sum_pow n j base b2 b0
  have ht : signed false m (i - base).toNat + signed false n (j - base).toNat = ((m * 2 ^ (i - base).toNat + n * 2 ^ (j - base).toNat : Nat) : Int) := by
    rw [signed_eq, signed_eq]; simp
  generalize hM : m * 2 ^ (i - base).toNat = M at *
  generalize hN : n * 2 ^ (j - base).toNat = N at *
  have hM0 : M ≠ 0 := by
    intro e; rw [e, Nat.zero_mul] at e1; omega
  obtain ⟨c, h1, h2, h3, h4⟩ := near_any_bounds false (M + N) base (by omega)
  have e : (M + N) * 2 ^ (base + 2148).toNat = (V a + V b) * 2 ^ sc := by
    rw [up_sc _ _ b0, Nat.add_mul, e1, e2, v1, v2]
  rw [e] at h3 h4
  refine ⟨c, ?_, h2, fun r hr => h3 r (Nat.mul_le_mul_right _ hr), fun r hr0 hr => h4 r hr0 (Nat.mul_le_mul_right _ hr)⟩
  unfold Format.add
  rw [r1, r2]
  simp only [Datum.sum, Option.map_some, ← hbase, ht]
  rw [if_neg (by omega)]
  simp only [Format.write, Int.natAbs_natCast]
  rw [show decide (((M + N : Nat) : Int) < 0) = false by simp; omega, h1]

/-- a - b, a greater than b -/
theorem add_neg (a b : Nat) (ha : a < inf) (hb : b < inf) (hlt : V b < V a) :
    ∃ c, double.add (wd false a) (wd true b) = some (wd false c) ∧ c ≤ inf ∧ (∀ r, V a - V b ≤ V r → c ≤ r) ∧ (∀ r, r ≤ inf → V r ≤ V a - V b → r ≤ c) := by
  obtain ⟨m, i, r1, i1, i2, v1, m1, n1⟩ := read_wd false a ha
  obtain ⟨n, j, r2, j1, j2, v2, m2, n2⟩ := read_wd true b hb
  obtain ⟨base, hbase⟩ : ∃ base : Int, base = min i j := ⟨_, rfl⟩
  have b0 : -1074 ≤ base := by omega
  have b1 : base ≤ i := by omega
  have b2 : base ≤ j := by omega
  have e1 := sum_pow m i base b1 b0
  have e2 := sum_pow n j base b2 b0
  have ht : signed false m (i - base).toNat + signed true n (j - base).toNat = ((m * 2 ^ (i - base).toNat : Nat) : Int) - ((n * 2 ^ (j - base).toNat : Nat) : Int) := by
    rw [signed_eq, signed_eq]; simp; omega
  generalize hM : m * 2 ^ (i - base).toNat = M at *
  generalize hN : n * 2 ^ (j - base).toNat = N at *
  have hMN : N < M := by
    rw [← v1, ← v2, ← e1, ← e2] at hlt
    exact Nat.lt_of_mul_lt_mul_right hlt
  have ht' : ((M : Nat) : Int) - ((N : Nat) : Int) = ((M - N : Nat) : Int) := by omega
  obtain ⟨c, h1, h2, h3, h4⟩ := near_any_bounds false (M - N) base (by omega)
  have e : (M - N) * 2 ^ (base + 2148).toNat = (V a - V b) * 2 ^ sc := by
    rw [up_sc _ _ b0, Nat.sub_mul, e1, e2, v1, v2]
  rw [e] at h3 h4
  refine ⟨c, ?_, h2, fun r hr => h3 r (Nat.mul_le_mul_right _ hr), fun r hr0 hr => h4 r hr0 (Nat.mul_le_mul_right _ hr)⟩
  unfold Format.add
  rw [r1, r2]
  simp only [Datum.sum, Option.map_some, ← hbase, ht, ht']
  rw [if_neg (by omega)]
  simp only [Format.write, Int.natAbs_natCast]
  rw [show decide (((M - N : Nat) : Int) < 0) = false by simp, h1]

theorem add_comm' (x y : Nat) : double.add x y = double.add y x := by
  unfold Format.add
  congr 1
  cases double.read x <;> cases double.read y <;> simp only [Datum.sum]
  · rename_i s m i t n j
    rw [Int.min_comm i j, Int.add_comm (signed s m _), Bool.and_comm s t]
  · rename_i s t
    by_cases e : s = t
    · subst e; rfl
    · rw [if_neg e, if_neg (fun h => e h.symm)]

/-- x - 0 of x's own sign -/
theorem sub_zero' (s : Bool) (a : Nat) (ha : a < inf) (h0 : a = 0 → s = false) : double.sub (wd s a) (wd s 0) = some (wd s a) := by
  obtain ⟨m, i, r1, i1, i2, v1, m1, n1⟩ := read_wd s a ha
  obtain ⟨n, j, r2, j1, j2, v2, m2, n2⟩ := read_wd s 0 (by decide)
  have hn : n = 0 := by
    have : V 0 = 0 := by decide
    rw [this] at v2
    rcases Nat.mul_eq_zero.1 v2 with h | h
    · exact h
    · exact absurd h (Nat.ne_of_gt (Nat.pow_pos (by decide)))
  subst hn
  obtain ⟨base, hbase⟩ : ∃ base : Int, base = min i j := ⟨_, rfl⟩
  have b0 : -1074 ≤ base := by omega
  have b1 : base ≤ i := by omega
  have e1 := sum_pow m i base b1 b0
  unfold Format.sub
  rw [r1, r2]
  simp only [Datum.opposite, Datum.sum, Option.map_some, ← hbase, Format.write]
  have ht : signed s m (i - base).toNat + signed (!s) 0 (j - base).toNat = if s then -((m * 2 ^ (i - base).toNat : Nat) : Int) else ((m * 2 ^ (i - base).toNat : Nat) : Int) := by
    rw [signed_eq, signed_eq]; cases s <;> simp
  rw [ht]
  generalize hM : m * 2 ^ (i - base).toNat = M at *
  have hx : M * 2 ^ (base + 2148).toNat = V a * 2 ^ sc := by rw [up_sc _ _ b0, e1, v1]
  have hnat : (if s then -((M : Nat) : Int) else ((M : Nat) : Int)).natAbs = M := by cases s <;> simp
  rw [hnat]
  by_cases hM0 : M = 0
  · have ha0 : a = 0 := by
      rw [hM0, Nat.zero_mul] at hx
      rcases Nat.eq_zero_or_pos a with e | e
      · exact e
      · have h1 := V_lt e
        have h2 : 0 < V a * 2 ^ sc := Nat.mul_pos (by omega) (Nat.pow_pos (by decide))
        omega
    have hs := h0 ha0
    subst hs
    subst hM0
    rw [if_pos (by simp)]
    rw [near_exact _ _ _ (by omega) a (Nat.le_of_lt ha) hx]
    rfl
  · have hneg : (if (if s then -((M : Nat) : Int) else ((M : Nat) : Int)) = 0 then s && !s else decide ((if s then -((M : Nat) : Int) else ((M : Nat) : Int)) < 0)) = s := by
      cases s
      · simp
      · simp; omega
    rw [hneg, near_exact _ _ _ (by omega) a (Nat.le_of_lt ha) hx]

/-- a quotient that is at most K halves of a unit -/
theorem quot_le (D n K : Nat) (hn : 0 < n) (h : D ≤ K * n) : 2 * (D / n) + (D % n != 0).toNat ≤ 2 * K := by
  have hdm := Nat.div_add_mod D n
  by_cases hr : D % n = 0
  · have : D / n ≤ K := by
      apply Nat.le_of_mul_le_mul_right (c := n) _ hn
      rw [Nat.mul_comm (D / n)]; omega
    simp [hr]; omega
  · have h1 : D / n < K := by
      apply Nat.lt_of_mul_lt_mul_right (a := n)
      rw [Nat.mul_comm (D / n)]; omega
    have := Bool.toNat_le (D % n != 0)
    omega

theorem log2_lt {m k : Nat} (h : m < 2 ^ (k + 1)) : m.log2 ≤ k := by
  by_cases e : m = 0
  · subst e; simp
  · have := (Nat.log2_lt e).2 h; omega

theorem log2_52 {m : Nat} (h1 : 4503599627370496 ≤ m) (h2 : m < 9007199254740992) : m.log2 = 52 := by
  have a := log2_lt (m := m) (k := 52) (by rw [show (2 : Nat) ^ (52 + 1) = 9007199254740992 by decide]; exact h2)
  have b : 52 ≤ m.log2 := (Nat.le_log2 (by omega)).2 (by rw [two52]; exact h1)
  omega

/-- THE QUOTIENT by a word n that reads 'mn * 2 ^ j'. -/
theorem div_gen (s : Bool) (a n mn : Nat) (j : Int) (ha : a < inf) (hn : double.read n = .number false mn j) (hmn : 4503599627370496 ≤ mn) (hmn2 : mn < 9007199254740992) (hj1 : -100 ≤ j) (hj2 : j ≤ 0) :
    ∃ (m : Nat) (i : Int) (more c : Nat), m * 2 ^ (i + 1074).toNat = V a ∧ -1074 ≤ i ∧ i ≤ 971 ∧ more = 106 - m.log2 ∧ m < 9007199254740992 ∧ (4503599627370496 ≤ a → 4503599627370496 ≤ m) ∧
      double.div (wd s a) n = some (double.nearest s (2 * (m * 2 ^ more / mn) + (m * 2 ^ more % mn != 0).toNat) (i - j - more - 1)) ∧
      double.div (wd s a) n = some (wd s c) ∧ c ≤ inf ∧ (∀ r K, m * 2 ^ more ≤ K * mn → 2 * K * 2 ^ (i - j - more - 1 + 2148).toNat ≤ V r * 2 ^ sc → c ≤ r) := by
  obtain ⟨m, i, r1, i1, i2, v1, m1, n1⟩ := read_wd s a ha
  have hl : mn.log2 = 52 := log2_52 hmn hmn2
  have hd : double.div (wd s a) n = some (double.nearest s (2 * (m * 2 ^ (106 - m.log2) / mn) + (m * 2 ^ (106 - m.log2) % mn != 0).toNat) (i - j - (106 - m.log2 : Nat) - 1)) := by
    unfold Format.div
    rw [r1, hn]
    simp only [Datum.quotient, double_values.2.1, hl]
    rw [if_neg (by omega)]
    simp only [Option.map_some, Format.write, Nat.shiftLeft_eq, Bool.xor_false]
  obtain ⟨c, h1, h2, h3, _⟩ := near_any_bounds s (2 * (m * 2 ^ (106 - m.log2) / mn) + (m * 2 ^ (106 - m.log2) % mn != 0).toNat) (i - j - (106 - m.log2 : Nat) - 1) (by omega)
  refine ⟨m, i, _, c, v1, i1, i2, rfl, m1, n1, hd, by rw [hd, h1], h2, fun r K hK hr => h3 r ?_⟩
  exact Nat.le_trans (Nat.mul_le_mul_right _ (quot_le _ _ K (by omega) hK)) hr

theorem pow_s (a : Nat) : (2 : Nat) ^ (a + 1) = 2 ^ a * 2 := Nat.pow_succ 2 a
theorem pow_sc1 : (2 : Nat) ^ (sc + 1) = 2 ^ sc * 2 := pow_s _
def sh : Nat := 1073
theorem sh_eq : sh = 1073 := rfl
theorem V_half : V half = 2 ^ sh := by decide +kernel
theorem V_one : V one = 2 ^ sc := by decide +kernel
theorem V_two : V two = 2 ^ (sc + 1) := by decide +kernel
theorem pow_le' {a b : Nat} (h : a ≤ b) : (2 : Nat) ^ a ≤ 2 ^ b := Nat.pow_le_pow_right (by decide) h

/-- |a| at most 1, divided by what is at least 2, is at most 1/2 -/
theorem div_half (s : Bool) (a n mn : Nat) (j : Int) (ha : a < inf) (hn : double.read n = .number false mn j) (hmn : 4503599627370496 ≤ mn) (hmn2 : mn < 9007199254740992) (hj1 : -51 ≤ j) (hj2 : j ≤ 0) (hv : V a ≤ 2 ^ sc) :
    ∃ c, double.div (wd s a) n = some (wd s c) ∧ c ≤ half := by
  obtain ⟨m, i, more, c, v1, i1, i2, hmore, m1, n1, _, hd, _, h3⟩ := div_gen s a n mn j ha hn hmn hmn2 (by omega) hj2
  refine ⟨c, hd, ?_⟩
  have hsc := sc_eq
  by_cases hm0 : m = 0
  · exact h3 half 0 (by rw [hm0]; simp) (by simp)
  · have hlg : m.log2 ≤ 52 := log2_lt (k := 52) (by rw [show (2 : Nat) ^ (52 + 1) = 9007199254740992 by decide]; exact m1)
    have hi0 : i ≤ 0 := by
      rcases Int.le_total i 0 with h | h
      · exact h
      · by_cases e : i = 0
        · omega
        · exfalso
          have h1 : 1 * 2 ^ (sc + 1) ≤ m * 2 ^ (i + 1074).toNat := Nat.mul_le_mul (by omega) (pow_le' (by omega))
          rw [v1, Nat.one_mul, pow_sc1] at h1
          have : 0 < 2 ^ sc := Nat.pow_pos (by decide)
          omega
    obtain ⟨I, hI⟩ : ∃ I : Nat, i = -(I : Int) := ⟨(-i).toNat, by omega⟩
    have hm : m ≤ 2 ^ I := by
      rw [← v1] at hv
      have e : (2 : Nat) ^ sc = 2 ^ I * 2 ^ (i + 1074).toNat := by rw [← Nat.pow_add]; congr 1; omega
      rw [e] at hv
      exact Nat.le_of_mul_le_mul_right hv (Nat.pow_pos (by decide))
    have hmr : 54 ≤ more := by omega
    refine h3 half (2 ^ (more + I - 52)) ?_ ?_
    · have h1 : m * 2 ^ more ≤ 2 ^ I * 2 ^ more := Nat.mul_le_mul_right _ hm
      have h2 : 2 ^ (more + I - 52) * 4503599627370496 ≤ 2 ^ (more + I - 52) * mn := Nat.mul_le_mul_left _ hmn
      have h3 : 2 ^ I * 2 ^ more = 2 ^ (more + I - 52) * 4503599627370496 := by
        rw [← two52, ← Nat.pow_add, ← Nat.pow_add]; congr 1; omega
      omega
    · have hsh := sh_eq
      rw [V_half, ← Nat.pow_add, Nat.mul_comm 2, ← Nat.pow_succ 2 (more + I - 52), ← Nat.pow_add]
      exact pow_le' (by omega)
end Go.Proofs.Ybulkbpbm.fl
