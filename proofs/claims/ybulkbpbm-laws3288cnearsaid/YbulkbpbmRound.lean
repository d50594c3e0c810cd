import Derived.Laws.FloatBits
/-! Rounding to nearest is monotone: plain facts on Ieee.double. No Go text here. -/
namespace Go.Proofs.Ybulkbpbm.fl

/-- the magnitude of the rung r of float64, in units of 2 ^ -1074 -/
def V (r : Nat) : Nat := if r < 4503599627370496 then r else (4503599627370496 + r % 4503599627370496) * 2 ^ (r / 4503599627370496 - 1)

theorem two52 : (2 : Nat) ^ 52 = 4503599627370496 := by decide

/-- the rung of 'kept' units of 2 ^ L -/
theorem V_at (L k : Nat) (hk : k ≤ 9007199254740992) (hL : L = 0 ∨ 4503599627370496 ≤ k) : V (L * 4503599627370496 + k) = k * 2 ^ L := by
  unfold V
  by_cases h1 : L * 4503599627370496 + k < 4503599627370496
  · have hL0 : L = 0 := by omega
    subst hL0
    rw [if_pos h1]; simp
  · rw [if_neg h1]
    by_cases h2 : k < 9007199254740992
    · have hk1 : 4503599627370496 ≤ k := by omega
      have e1 : (L * 4503599627370496 + k) % 4503599627370496 = k - 4503599627370496 := by omega
      have e2 : (L * 4503599627370496 + k) / 4503599627370496 - 1 = L := by omega
      rw [e1, e2, show 4503599627370496 + (k - 4503599627370496) = k by omega]
    · obtain rfl : k = 9007199254740992 := by omega
      have e1 : (L * 4503599627370496 + 9007199254740992) % 4503599627370496 = 0 := by omega
      have e2 : (L * 4503599627370496 + 9007199254740992) / 4503599627370496 - 1 = L + 1 := by omega
      rw [e1, e2, Nat.pow_succ]
      have e3 : (9007199254740992 : Nat) = 4503599627370496 * 2 := by decide
      rw [e3]
      generalize 2 ^ L = p
      omega

/-- every rung is such a one -/
theorem V_form (r : Nat) : ∃ L k, r = L * 4503599627370496 + k ∧ k < 9007199254740992 ∧ (L = 0 ∨ 4503599627370496 ≤ k) ∧ V r = k * 2 ^ L := by
  by_cases h : r < 4503599627370496
  · exact ⟨0, r, by omega, by omega, .inl rfl, by simp [V, h]⟩
  · refine ⟨r / 4503599627370496 - 1, 4503599627370496 + r % 4503599627370496, by omega, by omega, .inr (by omega), ?_⟩
    simp [V, h]

theorem V_mono_succ (r : Nat) : V r < V (r + 1) := by
  obtain ⟨L, k, rfl, hk, hL, hv⟩ := V_form r
  rw [hv, show L * 4503599627370496 + k + 1 = L * 4503599627370496 + (k + 1) by omega, V_at L (k + 1) (by omega) (by omega), Nat.add_mul]
  have : 0 < 2 ^ L := Nat.pow_pos (by decide)
  omega

theorem V_lt {a b : Nat} (h : a < b) : V a < V b := by
  induction b with
  | zero => omega
  | succ b ih =>
    by_cases e : a = b
    · subst e; exact V_mono_succ a
    · exact Nat.lt_trans (ih (by omega)) (V_mono_succ b)
theorem V_le {a b : Nat} (h : V a ≤ V b) : a ≤ b := by
  rcases Nat.lt_or_ge b a with h1 | h1
  · have := V_lt h1; omega
  · exact h1

/-- cutting to the nearest keeps bounds -/
theorem cut_ge (neg : Bool) (n drop K : Nat) (h : K * 2 ^ drop ≤ n) : K ≤ Ieee.Toward.even.cut neg n drop := by
  unfold Ieee.Toward.cut
  dsimp only
  by_cases hd : drop ≤ n.log2 + 2
  · rw [Nat.min_eq_left hd, Nat.one_shiftLeft]
    have : K ≤ n / 2 ^ drop := (Nat.le_div_iff_mul_le (Nat.pow_pos (by decide))).2 h
    omega
  · have hn : n < 2 ^ (n.log2 + 1) := Nat.lt_log2_self
    have hp : 2 ^ (n.log2 + 1) ≤ 2 ^ drop := Nat.pow_le_pow_right (by decide) (by omega)
    have hK : K = 0 := by
      rcases Nat.eq_zero_or_pos K with e | e
      · exact e
      · have : 1 * 2 ^ drop ≤ K * 2 ^ drop := Nat.mul_le_mul_right _ e
        omega
    rw [hK]; exact Nat.zero_le _

theorem cut_le (neg : Bool) (n drop K : Nat) (h : n ≤ K * 2 ^ drop) : Ieee.Toward.even.cut neg n drop ≤ K := by
  unfold Ieee.Toward.cut
  dsimp only
  have key : ∀ gap : Nat, 0 < gap → n ≤ K * gap → n / gap + (decide (gap < 2 * (n % gap)) || gap == 2 * (n % gap) && n / gap % 2 == 1).toNat ≤ K := by
    intro gap hg hn
    have hdm := Nat.div_add_mod n gap
    by_cases hr : n % gap = 0
    · have : n / gap ≤ K := by
        apply Nat.le_of_mul_le_mul_right (c := gap) _ hg
        rw [Nat.mul_comm (n / gap)]
        omega
      have e : (decide (gap < 2 * (n % gap)) || gap == 2 * (n % gap) && n / gap % 2 == 1) = false := by
        rw [hr]; simp; omega
      rw [e]; simpa using this
    · have h1 : n / gap < K := by
        apply Nat.lt_of_mul_lt_mul_right (a := gap)
        rw [Nat.mul_comm (n / gap)]
        omega
      have h2 := Bool.toNat_le (decide (gap < 2 * (n % gap)) || gap == 2 * (n % gap) && n / gap % 2 == 1)
      omega
  by_cases hd : drop ≤ n.log2 + 2
  · rw [Nat.min_eq_left hd, Nat.one_shiftLeft]
    exact key _ (Nat.pow_pos (by decide)) h
  · rw [Nat.min_eq_right (by omega), Nat.one_shiftLeft]
    have hn : n < 2 ^ (n.log2 + 1) := Nat.lt_log2_self
    have hg : 2 ^ (n.log2 + 2) = 2 * 2 ^ (n.log2 + 1) := by rw [Nat.pow_succ, Nat.mul_comm]
    have e1 : n / 2 ^ (n.log2 + 2) = 0 := Nat.div_eq_of_lt (by omega)
    have e2 : n % 2 ^ (n.log2 + 2) = n := Nat.mod_eq_of_lt (by omega)
    rw [e1, e2]
    have e : (decide (2 ^ (n.log2 + 2) < 2 * n) || 2 ^ (n.log2 + 2) == 2 * n && 0 % 2 == 1) = false := by
      simp; omega
    rw [e]; simp

/-- 1074, kept from reckoning -/
def sc : Nat := 1074
theorem sc_eq : sc = 1074 := rfl

theorem double_values : Ieee.double.leastPlace = -1074 ∧ Ieee.double.fractionBits = 52 ∧ Ieee.double.binade = 4503599627370496 ∧ Ieee.double.infRung = 9218868437227405312 ∧ Ieee.double.signWeight = 9223372036854775808 := by decide

/-- THE LAW: the nearest word of 'mag * 2 ^ place' keeps every bound that is a rung. The numbers are compared in units of 2 ^ -2148. -/
theorem nearest_bounds (neg : Bool) (mag : Nat) (place : Int) (hm : mag ≠ 0) (hp : -2148 ≤ place) :
    ∃ rung, Ieee.double.nearest neg mag place = Ieee.double.word neg rung ∧ rung ≤ 9218868437227405312 ∧
      (∀ r, mag * 2 ^ (place + 2148).toNat ≤ V r * 2 ^ sc → rung ≤ r) ∧
      (∀ r, r ≤ 9218868437227405312 → V r * 2 ^ sc ≤ mag * 2 ^ (place + 2148).toNat → r ≤ rung) := by
  obtain ⟨d1, d2, d3, d4, d5⟩ := double_values
  unfold Ieee.Format.nearest
  rw [if_neg hm]
  dsimp only
  rw [d1, d2, d3, d4]
  obtain ⟨lg, hlg⟩ : ∃ lg, lg = mag.log2 := ⟨_, rfl⟩
  have hlo : 2 ^ lg ≤ mag := by rw [hlg]; exact Nat.log2_self_le hm
  have hhi : mag < 2 ^ (lg + 1) := by rw [hlg]; exact Nat.lt_log2_self
  rw [← hlg]
  obtain ⟨last, hlast⟩ : ∃ last : Int, last = max (place + (lg : Int) - (52 : Nat)) (-1074) := ⟨_, rfl⟩
  have hl1 : -1074 ≤ last := by omega
  have hl2 : place + (lg : Int) - 52 ≤ last := by omega
  have hl3 : last = -1074 ∨ last = place + (lg : Int) - 52 := by omega
  rw [← hlast]
  obtain ⟨L, hL⟩ : ∃ L : Nat, last = (L : Int) - 1074 := ⟨(last + 1074).toNat, by omega⟩
  rw [show (last - -1074).toNat = L by omega]
  -- the number in units of 2 ^ last
  obtain ⟨up, hup⟩ : ∃ up, up = (place - last).toNat := ⟨_, rfl⟩
  obtain ⟨drop, hdrop⟩ : ∃ drop, drop = (last - place).toNat := ⟨_, rfl⟩
  rw [← hup, ← hdrop, Nat.shiftLeft_eq]
  obtain ⟨P, hP⟩ : ∃ P : Nat, (place + 2148).toNat = P := ⟨_, rfl⟩
  rw [hP]
  -- P + drop = L + sc + up
  have hsc := sc_eq
  have hPL : P + drop = (L + sc) + up := by omega
  have hud : up = 0 ∨ drop = 0 := by omega
  generalize hkept : Ieee.Toward.even.cut neg (mag * 2 ^ up) drop = kept
  have ge : ∀ K, K * 2 ^ (L + sc) ≤ mag * 2 ^ P → K ≤ kept := by
    intro K hK
    rw [← hkept]
    apply cut_ge
    have h1 : K * 2 ^ (L + sc) * 2 ^ drop ≤ mag * 2 ^ P * 2 ^ drop := Nat.mul_le_mul_right _ hK
    rw [Nat.mul_assoc mag, ← Nat.pow_add, hPL] at h1
    generalize L + sc = A at h1
    rw [Nat.add_comm A, Nat.pow_add, ← Nat.mul_assoc mag, Nat.mul_right_comm] at h1
    exact Nat.le_of_mul_le_mul_right h1 (Nat.pow_pos (by decide))
  have le : ∀ K, mag * 2 ^ P ≤ K * 2 ^ (L + sc) → kept ≤ K := by
    intro K hK
    rw [← hkept]
    apply cut_le
    have h1 : mag * 2 ^ P * 2 ^ drop ≤ K * 2 ^ (L + sc) * 2 ^ drop := Nat.mul_le_mul_right _ hK
    rw [Nat.mul_assoc mag, ← Nat.pow_add, hPL] at h1
    generalize L + sc = A at h1
    rw [Nat.add_comm A, Nat.pow_add, ← Nat.mul_assoc mag, Nat.mul_right_comm K] at h1
    exact Nat.le_of_mul_le_mul_right h1 (Nat.pow_pos (by decide))
  -- its size
  have hX1 : mag * 2 ^ P ≤ 9007199254740992 * 2 ^ (L + sc) := by
    have : mag * 2 ^ P ≤ 2 ^ (lg + 1) * 2 ^ P := Nat.mul_le_mul_right _ (Nat.le_of_lt hhi)
    refine Nat.le_trans this ?_
    rw [show (9007199254740992 : Nat) = 2 ^ 53 by decide, ← Nat.pow_add, ← Nat.pow_add]
    exact Nat.pow_le_pow_right (by decide) (by omega)
  have hX2 : L = 0 ∨ 4503599627370496 * 2 ^ (L + sc) ≤ mag * 2 ^ P := by
    by_cases h0 : L = 0
    · exact .inl h0
    · right
      refine Nat.le_trans ?_ (Nat.mul_le_mul_right _ hlo)
      rw [← two52, ← Nat.pow_add, ← Nat.pow_add]
      exact Nat.pow_le_pow_right (by decide) (by omega)
  have hk1 : kept ≤ 9007199254740992 := le _ hX1
  have hk2 : L = 0 ∨ 4503599627370496 ≤ kept := by
    rcases hX2 with h | h
    · exact .inl h
    · exact .inr (ge _ h)
  have hV := V_at L kept hk1 hk2
  refine ⟨_, rfl, Nat.min_le_right _ _, fun r hr => ?_, fun r hr0 hr => ?_⟩
  · refine Nat.le_trans (Nat.min_le_left _ _) (V_le ?_)
    rw [hV]
    obtain ⟨L', k', rfl, hk', hL', hv'⟩ := V_form r
    rw [hv'] at hr ⊢
    rw [Nat.mul_assoc, ← Nat.pow_add] at hr
    by_cases hLL : L ≤ L'
    · have := le (k' * 2 ^ (L' - L)) (by rw [Nat.mul_assoc, ← Nat.pow_add, show L' - L + (L + sc) = L' + sc by omega]; exact hr)
      have h2 : kept * 2 ^ L ≤ k' * 2 ^ (L' - L) * 2 ^ L := Nat.mul_le_mul_right _ this
      rw [Nat.mul_assoc, ← Nat.pow_add, show L' - L + L = L' by omega] at h2
      exact h2
    · exfalso
      rcases hX2 with h | h
      · omega
      · have h3 : k' * 2 ^ (L' + sc) < 9007199254740992 * 2 ^ (L' + sc) := Nat.mul_lt_mul_of_pos_right hk' (Nat.pow_pos (by decide))
        have h4 : 9007199254740992 * 2 ^ (L' + sc) ≤ 4503599627370496 * 2 ^ (L + sc) := by
          rw [show (9007199254740992 : Nat) = 2 ^ 53 by decide, ← two52, ← Nat.pow_add, ← Nat.pow_add]
          exact Nat.pow_le_pow_right (by decide) (by omega)
        omega
  · refine Nat.le_min.2 ⟨V_le ?_, hr0⟩
    rw [hV]
    obtain ⟨L', k', rfl, hk', hL', hv'⟩ := V_form r
    rw [hv'] at hr ⊢
    rw [Nat.mul_assoc, ← Nat.pow_add] at hr
    by_cases hLL : L ≤ L'
    · have := ge (k' * 2 ^ (L' - L)) (by rw [Nat.mul_assoc, ← Nat.pow_add, show L' - L + (L + sc) = L' + sc by omega]; exact hr)
      have h2 : k' * 2 ^ (L' - L) * 2 ^ L ≤ kept * 2 ^ L := Nat.mul_le_mul_right _ this
      rw [Nat.mul_assoc, ← Nat.pow_add, show L' - L + L = L' by omega] at h2
      exact h2
    · rcases hk2 with h | h
      · omega
      · have h3 : k' * 2 ^ L' ≤ 9007199254740992 * 2 ^ L' := Nat.mul_le_mul_right _ (Nat.le_of_lt hk')
        have h4 : 9007199254740992 * 2 ^ L' ≤ 4503599627370496 * 2 ^ L := by
          rw [show (9007199254740992 : Nat) = 2 ^ 53 by decide, ← two52, ← Nat.pow_add, ← Nat.pow_add]
          exact Nat.pow_le_pow_right (by decide) (by omega)
        have h5 : 4503599627370496 * 2 ^ L ≤ kept * 2 ^ L := Nat.mul_le_mul_right _ h
        omega
end Go.Proofs.Ybulkbpbm.fl
