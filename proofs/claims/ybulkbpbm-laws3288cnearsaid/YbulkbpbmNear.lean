import Derived.Test.YbulkbpbmOps
/-! The law near 0, over signs and rungs. No Go text here. -/
namespace Go.Proofs.Ybulkbpbm.fl
open Ieee

def sv (s : Bool) (v : Nat) : Int := if s then -(v : Int) else (v : Int)

theorem cmp_int (a b : Int) : compare a b = if a < b then .lt else if a = b then .eq else .gt := rfl

theorem cmp_scale (a b : Int) (p : Nat) (hp : 0 < p) : compare (a * (p : Int)) (b * (p : Int)) = compare a b := by
  have hp' : (0 : Int) < (p : Int) := by omega
  rw [cmp_int, cmp_int]
  have e1 : (a * (p : Int) < b * (p : Int)) = (a < b) := by
    apply propext; exact ⟨fun h => Int.lt_of_mul_lt_mul_right h (by omega), fun h => Int.mul_lt_mul_of_pos_right h hp'⟩
  have e2 : (a * (p : Int) = b * (p : Int)) = (a = b) := by
    apply propext; exact ⟨fun h => Int.eq_of_mul_eq_mul_right (by omega) h, fun h => by rw [h]⟩
  simp only [e1, e2]

theorem order_cmp (s t : Bool) (a b : Nat) (ha : a < inf) (hb : b < inf) : double.order (wd s a) (wd t b) = some (compare (sv s (V a)) (sv t (V b))) := by
  obtain ⟨m, i, r1, i1, i2, v1, m1, n1⟩ := read_wd s a ha
  obtain ⟨n, j, r2, j1, j2, v2, m2, n2⟩ := read_wd t b hb
  obtain ⟨base, hbase⟩ : ∃ base : Int, base = min i j := ⟨_, rfl⟩
  have b0 : -1074 ≤ base := by omega
  have b1 : base ≤ i := by omega
  have b2 : base ≤ j := by omega
  have e1 := sum_pow m i base b1 b0
  have e2 := sum_pow n j base b2 b0
  unfold Format.order
  rw [r1, r2]
  simp only [Datum.order, ← hbase, signed_eq]
  congr 1
  rw [← cmp_scale _ _ (2 ^ (base + 1074).toNat) (Nat.pow_pos (by decide)), ← v1, ← v2, ← e1, ← e2]
  congr 1
  · unfold sv; cases s <;> simp [Int.neg_mul]
  · unfold sv; cases t <;> simp [Int.neg_mul]

theorem fmt : FloatKind.f64.format = double := rfl

section
variable {s t : Bool} {a b : Nat}
theorem le_yes (ha : a < inf) (hb : b < inf) (h : sv s (V a) ≤ sv t (V b)) : isLe (wd s a) (wd t b) = true := by
  unfold isLe; rw [fmt, order_cmp s t a b ha hb, cmp_int]
  by_cases h1 : sv s (V a) < sv t (V b)
  · rw [if_pos h1]; rfl
  · rw [if_neg h1, if_pos (by omega)]; rfl
theorem le_no (ha : a < inf) (hb : b < inf) (h : sv t (V b) < sv s (V a)) : isLe (wd s a) (wd t b) = false := by
  unfold isLe; rw [fmt, order_cmp s t a b ha hb, cmp_int, if_neg (by omega), if_neg (by omega)]; rfl
theorem lt_no (ha : a < inf) (hb : b < inf) (h : sv t (V b) ≤ sv s (V a)) : isLt (wd s a) (wd t b) = false := by
  unfold isLt; rw [fmt, order_cmp s t a b ha hb, cmp_int, if_neg (by omega)]
  by_cases e : sv s (V a) = sv t (V b)
  · rw [if_pos e]; rfl
  · rw [if_neg e]; rfl
theorem gt_no (ha : a < inf) (hb : b < inf) (h : sv s (V a) ≤ sv t (V b)) : isGt (wd s a) (wd t b) = false := by
  unfold isGt; rw [fmt, order_cmp s t a b ha hb, cmp_int]
  by_cases h1 : sv s (V a) < sv t (V b)
  · rw [if_pos h1]; rfl
  · rw [if_neg h1, if_pos (by omega)]; rfl
theorem eq_yes (ha : a < inf) (hb : b < inf) (h : sv s (V a) = sv t (V b)) : isEq (wd s a) (wd t b) = true := by
  unfold isEq; rw [fmt, order_cmp s t a b ha hb, cmp_int, if_neg (by omega), if_pos h]; rfl
theorem eq_no (ha : a < inf) (hb : b < inf) (h : sv s (V a) ≠ sv t (V b)) : isEq (wd s a) (wd t b) = false := by
  unfold isEq; rw [fmt, order_cmp s t a b ha hb, cmp_int]
  by_cases h1 : sv s (V a) < sv t (V b)
  · rw [if_pos h1]; rfl
  · rw [if_neg h1, if_neg h]; rfl
end

theorem V_leq {a b : Nat} (h : a ≤ b) : V a ≤ V b := by
  by_cases e : a = b
  · subst e; exact Nat.le_refl _
  · exact Nat.le_of_lt (V_lt (by omega))

/-- twice a normal number: the next binade -/
theorem V_dbl (a : Nat) (h : 4503599627370496 ≤ a) : V (a + 4503599627370496) = 2 * V a := by
  unfold V
  rw [if_neg (by omega), if_neg (by omega), show (a + 4503599627370496) % 4503599627370496 = a % 4503599627370496 by omega,
    show (a + 4503599627370496) / 4503599627370496 - 1 = (a / 4503599627370496 - 1) + 1 by omega, pow_s]
  generalize 2 ^ (a / 4503599627370496 - 1) = p
  rw [← Nat.mul_assoc, Nat.mul_comm]

theorem V_zero : V 0 = 0 := by decide
theorem half_inf : half < inf := by decide
theorem one_inf : one < inf := by decide
theorem two_inf : two < inf := by decide
theorem sc_sh : (2 : Nat) ^ sc = 2 ^ sh * 2 := by
  have e : sc = sh + 1 := by decide
  rw [e, pow_s]

theorem nb_read (i : Nat) (hi : i < 13) : ∃ mn j, double.read (nb i) = .number false mn j ∧ 4503599627370496 ≤ mn ∧ mn < 9007199254740992 ∧ -51 ≤ j ∧ j ≤ 0 := by
  match i, hi with
  | 0, _ => exact ⟨7881299347898368, -49, by decide +kernel, by decide⟩
  | 1, _ => exact ⟨7318349394477056, -49, by decide +kernel, by decide⟩
  | 2, _ => exact ⟨6755399441055744, -49, by decide +kernel, by decide⟩
  | 3, _ => exact ⟨6192449487634432, -49, by decide +kernel, by decide⟩
  | 4, _ => exact ⟨5629499534213120, -49, by decide +kernel, by decide⟩
  | 5, _ => exact ⟨5066549580791808, -49, by decide +kernel, by decide⟩
  | 6, _ => exact ⟨4503599627370496, -49, by decide +kernel, by decide⟩
  | 7, _ => exact ⟨7881299347898368, -50, by decide +kernel, by decide⟩
  | 8, _ => exact ⟨6755399441055744, -50, by decide +kernel, by decide⟩
  | 9, _ => exact ⟨5629499534213120, -50, by decide +kernel, by decide⟩
  | 10, _ => exact ⟨4503599627370496, -50, by decide +kernel, by decide⟩
  | 11, _ => exact ⟨6755399441055744, -51, by decide +kernel, by decide⟩
  | 12, _ => exact ⟨4503599627370496, -51, by decide +kernel, by decide⟩

/-- THE HORNER STEP, x not negative and at most 1/2 -/
theorem step_pos (x q i : Nat) (hi : i < 13) (hx : x ≤ half) (hq2 : q ≤ two) : ∃ q', stepO (wd false x) (wd false q) (nb i) = some (wd false q') ∧ one ≤ q' ∧ q' ≤ two := by
  have hi1 := half_inf
  have hi2 := one_inf
  have hi3 := two_inf
  obtain ⟨A, m1, m2, m3, m4⟩ := mul_bounds false false x q (by omega) (by omega)
  have hA : A ≤ one := by
    apply m3
    have h1 := V_leq hx
    have h2 := V_leq hq2
    rw [V_half] at h1
    rw [V_two] at h2
    rw [V_one]
    refine Nat.le_trans (Nat.mul_le_mul h1 h2) ?_
    rw [pow_sc1, ← Nat.mul_assoc, Nat.mul_right_comm, ← sc_sh]
    exact Nat.le_refl _
  obtain ⟨mn, j, hr, hn1, hn2, hj1, hj2⟩ := nb_read i hi
  obtain ⟨B, d1, d2⟩ := div_half false A (nb i) mn j (by omega) hr hn1 hn2 hj1 hj2 (by rw [← V_one]; exact V_leq hA)
  obtain ⟨C, a1, a2, a3, a4⟩ := add_pos one B (by omega) (by omega) (by rw [V_one]; exact Nat.pow_pos (by decide))
  refine ⟨C, ?_, a4 one (by omega) (by omega), a3 two ?_⟩
  · unfold stepO
    rw [m1]; simp only [Option.bind_some, Bool.xor_self]
    rw [d1]; simp only [Option.bind_some]
    exact a1
  · have h1 := V_leq d2
    rw [V_half] at h1
    rw [V_one, V_two, pow_sc1, sc_sh]
    omega

/-- THE HORNER STEP, x negative and at most 1/2 in size -/
theorem step_neg (x q i : Nat) (hi : i < 13) (hx : x ≤ half) (hq2 : q ≤ one) : ∃ q', stepO (wd true x) (wd false q) (nb i) = some (wd false q') ∧ half ≤ q' ∧ q' ≤ one := by
  have hi1 := half_inf
  have hi2 := one_inf
  obtain ⟨A, m1, m2, m3, m4⟩ := mul_bounds true false x q (by omega) (by omega)
  have h1 := V_leq hx
  have h2 := V_leq hq2
  rw [V_half] at h1
  rw [V_one] at h2
  have hA : A ≤ one := by
    apply m3
    rw [V_one]
    refine Nat.mul_le_mul ?_ h2
    rw [sc_sh]; omega
  obtain ⟨mn, j, hr, hn1, hn2, hj1, hj2⟩ := nb_read i hi
  obtain ⟨B, d1, d2⟩ := div_half true A (nb i) mn j (by omega) hr hn1 hn2 hj1 hj2 (by rw [← V_one]; exact V_leq hA)
  have h3 := V_leq d2
  rw [V_half] at h3
  have hp : 0 < 2 ^ sh := Nat.pow_pos (by decide)
  obtain ⟨C, a1, a2, a3, a4⟩ := add_neg one B (by omega) (by omega) (by rw [V_one, sc_sh]; omega)
  refine ⟨C, ?_, a4 half (by omega) ?_, a3 one (by omega)⟩
  · unfold stepO
    rw [m1]; simp only [Option.bind_some, Bool.xor_false]
    rw [d1]; simp only [Option.bind_some]
    exact a1
  · rw [V_one, V_half, sc_sh]
    omega

theorem horner_pos (x : Nat) (hx : x ≤ half) (i : Nat) (hi : i ≤ 13) : ∃ q, hornerO (wd false x) i = some (wd false q) ∧ one ≤ q ∧ q ≤ two := by
  induction i with
  | zero => exact ⟨one, rfl, Nat.le_refl _, by decide⟩
  | succ i ih =>
    obtain ⟨q, h1, h2, h3⟩ := ih (by omega)
    obtain ⟨q', g1, g2, g3⟩ := step_pos x q i (by omega) hx h3
    exact ⟨q', by unfold hornerO; rw [h1]; exact g1, g2, g3⟩

theorem horner_neg (x : Nat) (hx : x ≤ half) (i : Nat) (hi : i ≤ 13) : ∃ q, hornerO (wd true x) i = some (wd false q) ∧ half ≤ q ∧ q ≤ one := by
  induction i with
  | zero => exact ⟨one, rfl, by decide, Nat.le_refl _⟩
  | succ i ih =>
    obtain ⟨q, h1, h2, h3⟩ := ih (by omega)
    obtain ⟨q', g1, g2, g3⟩ := step_neg x q i (by omega) hx h3
    exact ⟨q', by unfold hornerO; rw [h1]; exact g1, g2, g3⟩

/-- expm1Near, x not negative: between x and 2 x -/
theorem near_pos (x : Nat) (hx : x ≤ half) : ∃ y, nearO (wd false x) = some (wd false y) ∧ x ≤ y ∧ (x = 0 → y = 0) ∧ (4503599627370496 ≤ x → y ≤ x + 4503599627370496) := by
  have hi1 := half_inf
  have hi3 := two_inf
  obtain ⟨q, h1, h2, h3⟩ := horner_pos x hx 13 (by omega)
  obtain ⟨y, m1, m2, m3, m4⟩ := mul_bounds false false x q (by omega) (by omega)
  have g2 := V_leq h2
  have g3 := V_leq h3
  rw [V_one] at g2
  rw [V_two] at g3
  refine ⟨y, ?_, m4 x (by omega) (Nat.mul_le_mul_left _ g2), fun e => ?_, fun hxn => m3 _ ?_⟩
  · unfold nearO; rw [h1]; simp only [Option.bind_some]; rw [m1, Bool.xor_self]
  · have : y ≤ 0 := m3 0 (by rw [e, V_zero]; simp)
    omega
  · rw [V_dbl x hxn, Nat.mul_comm 2, Nat.mul_assoc]
    refine Nat.mul_le_mul_left _ ?_
    rw [pow_sc1, Nat.mul_comm] at g3
    exact g3

/-- expm1Near, x negative: between x and x / 2 -/
theorem near_neg (x : Nat) (hx : x ≤ half) (hn : 9007199254740992 ≤ x) : ∃ y, nearO (wd true x) = some (wd true y) ∧ y ≤ x ∧ x ≤ y + 4503599627370496 := by
  have hi1 := half_inf
  have hi2 := one_inf
  obtain ⟨q, h1, h2, h3⟩ := horner_neg x hx 13 (by omega)
  obtain ⟨y, m1, m2, m3, m4⟩ := mul_bounds true false x q (by omega) (by omega)
  have g2 := V_leq h2
  have g3 := V_leq h3
  rw [V_half] at g2
  rw [V_one] at g3
  have hb : x - 4503599627370496 ≤ y := by
    refine m4 _ (by omega) ?_
    have e := V_dbl (x - 4503599627370496) (by omega)
    rw [show x - 4503599627370496 + 4503599627370496 = x by omega] at e
    rw [e, sc_sh]
    have h5 : 2 * V (x - 4503599627370496) * 2 ^ sh ≤ 2 * V (x - 4503599627370496) * V q := Nat.mul_le_mul_left _ g2
    rw [Nat.mul_comm (2 ^ sh) 2, ← Nat.mul_assoc, Nat.mul_comm (V (x - 4503599627370496)) 2]
    exact h5
  refine ⟨y, ?_, m3 x (Nat.mul_le_mul_left _ g3), by omega⟩
  unfold nearO; rw [h1]; simp only [Option.bind_some]; rw [m1, Bool.xor_false]
end Go.Proofs.Ybulkbpbm.fl
