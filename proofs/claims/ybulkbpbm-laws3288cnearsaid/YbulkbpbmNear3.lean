import Derived.Test.YbulkbpbmNear2
/-! The law near 0, whole, on bits. No Go text here. -/
namespace Go.Proofs.Ybulkbpbm.fl
open Ieee

def isGe (x y : Nat) : Bool := FloatKind.f64.format.order x y == some Ordering.gt || FloatKind.f64.format.order x y == some Ordering.eq

theorem round_small (s : Bool) (q : Nat) (hq : q ≤ r716) : roundP (wd s q) = wd s 0 := by
  have hqi : q < inf := by unfold r716 inf at *; omega
  unfold roundP
  rw [eF_wd s q hqi, sign_wd s q hqi, if_pos (by unfold r716 at hq; omega)]

theorem toInt_zero (s : Bool) : floatToIntVal .f64 (wd s 0) .i64 = some 0 := by cases s <;> decide +kernel

theorem exp_at (s : Bool) (x y S : Nat) (hx : x ≤ xm) (hn : x = 0 ∨ 4503599627370496 ≤ x) (h0 : x = 0 → s = false) (hy : nearO (wd s x) = some y) (hS : double.add one y = some (wd false S)) (hS1 : half ≤ S) (hS2 : S ≤ two) :
    expO (wd s x) = some (wd false S) := by
  have hxi : x < inf := by unfold xm inf at *; omega
  have hSi : S < inf := by unfold two inf at *; omega
  have c1 : isLt (wd s x) 13872810886533480448 = false := by
    rw [show (13872810886533480448 : Nat) = wd true 4649438849678704640 by decide]
    refine lt_no hxi (by decide) ?_
    have := V_leq (show x ≤ 4649438849678704640 by unfold xm at hx; omega)
    unfold sv; cases s <;> simp <;> omega
  have c2 : isGt (wd s x) 4649454506724284170 = false := by
    rw [← wd_f 4649454506724284170]
    refine gt_no hxi (by decide) ?_
    have := V_leq (show x ≤ 4649454506724284170 by unfold xm at hx; omega)
    unfold sv; cases s <;> simp <;> omega
  obtain ⟨q, d1, d2⟩ := div_ln2 s x hx hn
  have hr := round_small s q d2
  have t1 := mul_zero' s 4604418534311723008 (by decide)
  have t3 := mul_zero' s 4461442080421002358 (by decide)
  have t2 := sub_zero' s x hxi h0
  have hl : ldexpO (wd false S) 0 = some (wd false S) := by
    unfold half at hS1
    unfold two at hS2
    exact ldexp_exact false S S 0 (by omega) hSi (by omega) (by omega) (by omega) (by omega) (by omega)
  unfold expO
  rw [c1, c2]
  simp only [Bool.false_eq_true, if_false]
  unfold expMid
  rw [show double.div (wd s x) 4604418534313441775 = some (wd s q) from d1]
  simp only [Option.bind_some]
  rw [hr, t1]
  simp only [Option.bind_some]
  rw [t2]
  simp only [Option.bind_some]
  rw [t3]
  simp only [Option.bind_some]
  rw [t2]
  simp only [Option.bind_some]
  rw [hy]
  simp only [Option.bind_some]
  rw [hS]
  simp only [Option.bind_some]
  rw [toInt_zero]
  simp only [Option.bind_some]
  exact hl

theorem xm_half : xm ≤ half := by decide

theorem ge_yes (x : Nat) (hx : x < inf) : isGe x 0 = true := by
  unfold isGe
  rw [fmt, ← wd_f x, ← wd_f 0, order_cmp false false x 0 hx (by decide), V_zero, cmp_int]
  unfold sv
  simp only [Bool.false_eq_true, if_false]
  rw [if_neg (by omega)]
  by_cases e : ((V x : Nat) : Int) = ((0 : Nat) : Int)
  · rw [if_pos e]; rfl
  · rw [if_neg e]; rfl

theorem ge_no (x : Nat) (hx : x < inf) (h0 : 0 < x) : isGe (wd true x) 0 = false := by
  have hpos : 0 < V x := by have := V_lt h0; omega
  unfold isGe
  rw [fmt, ← wd_f 0, order_cmp true false x 0 hx (by decide), V_zero, cmp_int]
  unfold sv
  simp only [Bool.false_eq_true, if_false, if_true]
  rw [if_pos (by omega)]; rfl

theorem small_le (s : Bool) (x : Nat) (hx : x ≤ xm) : isLe (absP (wd s x)) 4599914934686071279 = true := by
  have hxi : x < inf := by unfold xm inf at *; omega
  rw [abs_wd s x hxi, ← wd_f 4599914934686071279]
  refine le_yes hxi (by decide) ?_
  have := V_leq (show x ≤ 4599914934686071279 by unfold xm at hx; omega)
  unfold sv; simp; omega

theorem mul_two (x : Nat) (hx : x ≤ xm) (hn : x = 0 ∨ 4503599627370496 ≤ x) : double.mul two x = some (if x = 0 then 0 else x + 4503599627370496) := by
  have hxi : x < inf := by unfold xm inf at *; omega
  obtain ⟨c, m1, m2, m3, m4⟩ := mul_bounds false false two x two_inf hxi
  rw [wd_f, wd_f, Bool.xor_self, wd_f] at m1
  rw [m1]
  congr 1
  rcases hn with h | h
  · rw [if_pos h]
    have := m3 0 (by rw [h, V_zero]; simp)
    omega
  · rw [if_neg (by omega)]
    have e : V two * V x = V (x + 4503599627370496) * 2 ^ sc := by
      rw [V_two, V_dbl x h, pow_sc1, Nat.mul_comm 2 (V x), Nat.mul_comm (2 ^ sc * 2), Nat.mul_comm (2 ^ sc) 2, Nat.mul_assoc]
    have h1 := m3 _ (Nat.le_of_eq e)
    have h2 := m4 (x + 4503599627370496) (by unfold xm inf at *; omega) (Nat.le_of_eq e.symm)
    omega

theorem two_read : double.read two = .number false 4503599627370496 (-51) := by decide +kernel

theorem div_two (x : Nat) (hx : x ≤ xm) (hn : 9007199254740992 ≤ x) : double.div (wd true x) two = some (wd true (x - 4503599627370496)) := by
  have hxi : x < inf := by unfold xm inf at *; omega
  obtain ⟨m, i, more, c, v1, i1, i2, hmore, m1, n1, hd, _, _, _⟩ := div_gen true x two _ _ hxi two_read (by decide) (by decide) (by decide) (by decide)
  have hm := n1 (by omega)
  have hlg : m.log2 = 52 := log2_52 hm m1
  have hmr : more = 54 := by omega
  subst hmr
  rw [hd]
  have e4 : (2 : Nat) ^ 54 = 4 * 4503599627370496 := by decide
  have e5 : m * 2 ^ 54 / 4503599627370496 = m * 4 := by rw [e4, ← Nat.mul_assoc]; exact Nat.mul_div_cancel _ (by decide)
  have e6 : m * 2 ^ 54 % 4503599627370496 = 0 := by rw [e4, ← Nat.mul_assoc]; exact Nat.mul_mod_left _ _
  rw [e5, e6]
  refine congrArg some (near_exact true _ _ (by omega) _ (by unfold inf at *; omega) ?_)
  have e := V_dbl (x - 4503599627370496) (by omega)
  rw [show x - 4503599627370496 + 4503599627370496 = x by omega] at e
  have hsh := sh_eq
  have e7 : (2 * (m * 4) + (0 != 0).toNat) = m * 2 ^ 3 := by simp; omega
  have e8 : 2 ^ 3 * 2 ^ (i - -51 - (54 : Nat) - 1 + 2148).toNat = 2 ^ (i + 1074).toNat * 2 ^ sh := by
    rw [← Nat.pow_add, ← Nat.pow_add, show 3 + (i - -51 - (54 : Nat) - 1 + 2148).toNat = (i + 1074).toNat + sh by omega]
  rw [e7, Nat.mul_assoc, e8, ← Nat.mul_assoc, v1, e, sc_sh, Nat.mul_comm (2 ^ sh) 2, ← Nat.mul_assoc, Nat.mul_comm 2 (V _)]

/-- THE LAW, x not negative -/
theorem law_pos (x : Nat) (hx : x ≤ xm) (hn : x = 0 ∨ 4503599627370496 ≤ x) :
    ∃ y e x2, nearO x = some y ∧ isLe (absP x) 4599914934686071279 = true ∧ expO x = some e ∧ double.add y one = some e ∧ isEq e e = true ∧ isGe x 0 = true ∧ double.mul two x = some x2 ∧ isLe x y = true ∧ isLe y x2 = true := by
  have hxi : x < inf := by unfold xm inf at *; omega
  have hxh := Nat.le_trans hx xm_half
  obtain ⟨y, y1, y2, y3, y4⟩ := near_pos x hxh
  have hyo : y ≤ one := by
    rcases hn with h | h
    · rw [y3 h]; exact Nat.zero_le _
    · have := y4 h; unfold xm at hx; unfold one; omega
  have hyi : y < inf := Nat.lt_of_le_of_lt hyo one_inf
  obtain ⟨S, a1, a2, a3, a4⟩ := add_pos one y one_inf hyi (by rw [V_one]; exact Nat.pow_pos (by decide))
  have hS1 : one ≤ S := a4 one (Nat.le_of_lt one_inf) (by omega)
  have hS2 : S ≤ two := a3 two (by have := V_leq hyo; rw [V_one] at this ⊢; rw [V_two, pow_sc1]; omega)
  have hSi : S < inf := Nat.lt_of_le_of_lt hS2 two_inf
  have he := exp_at false x y S hx hn (fun _ => rfl) y1 a1 (Nat.le_trans (by decide) hS1) hS2
  refine ⟨y, S, _, y1, small_le false x hx, he, (add_comm' _ _).trans a1, eq_yes (s := false) (t := false) hSi hSi rfl, ge_yes x hxi, mul_two x hx hn, ?_, ?_⟩
  · refine le_yes (s := false) (t := false) hxi hyi ?_
    have := V_leq y2
    unfold sv; simp; omega
  · rcases hn with h | h
    · rw [if_pos h, y3 h]
      exact le_yes (s := false) (t := false) (by decide) (by decide) (Int.le_refl _)
    · rw [if_neg (by omega)]
      refine le_yes (s := false) (t := false) hyi (by unfold xm inf at *; omega) ?_
      have := V_leq (y4 h)
      unfold sv; simp; omega

/-- THE LAW, x negative -/
theorem law_neg (x : Nat) (hx : x ≤ xm) (hn : 9007199254740992 ≤ x) :
    ∃ y e x2, nearO (wd true x) = some y ∧ isLe (absP (wd true x)) 4599914934686071279 = true ∧ expO (wd true x) = some e ∧ double.add y one = some e ∧ isEq e e = true ∧ isGe (wd true x) 0 = false ∧ double.div (wd true x) two = some x2 ∧ isLe (wd true x) y = true ∧ isLe y x2 = true := by
  have hxi : x < inf := by unfold xm inf at *; omega
  have hxh := Nat.le_trans hx xm_half
  obtain ⟨y, y1, y2, y3⟩ := near_neg x hxh hn
  have hyi : y < inf := by omega
  have hyh : V y ≤ 2 ^ sh := by rw [← V_half]; exact V_leq (by omega)
  have hp : 0 < 2 ^ sh := Nat.pow_pos (by decide)
  obtain ⟨S, a1, a2, a3, a4⟩ := add_neg one y one_inf hyi (by rw [V_one, sc_sh]; omega)
  have hS1 : half ≤ S := a4 half (Nat.le_of_lt half_inf) (by rw [V_half, V_one, sc_sh]; omega)
  have hS2 : S ≤ one := a3 one (by omega)
  have hSi : S < inf := Nat.lt_of_le_of_lt hS2 one_inf
  have he := exp_at true x (wd true y) S hx (.inr (by omega)) (fun h => by omega) y1 a1 hS1 (Nat.le_trans hS2 (by decide))
  refine ⟨wd true y, wd false S, _, y1, small_le true x hx, he, (add_comm' _ _).trans a1, eq_yes hSi hSi rfl, ge_no x hxi (by omega), div_two x hx hn, ?_, ?_⟩
  · refine le_yes hxi hyi ?_
    have := V_leq y2
    unfold sv; simp; omega
  · refine le_yes hyi (by unfold xm inf at *; omega) ?_
    have := V_leq (show x - 4503599627370496 ≤ y by omega)
    unfold sv; simp; omega
end Go.Proofs.Ybulkbpbm.fl
