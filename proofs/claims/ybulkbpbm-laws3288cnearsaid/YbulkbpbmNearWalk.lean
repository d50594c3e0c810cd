import Derived.Test.YbulkbpbmFl
import Derived.Test.YbulkbpbmNear4
namespace Go.Proofs.Ybulkbpbm.fl
open Go.ChangeShapes Go.WideShapes Go.ChangeAt Go.RowKit

theorem zero_eq : (FloatKind.f64.format.order 0 0 == some Ordering.eq) = true := by decide +kernel
set_option maxRecDepth 100000 in
set_option maxHeartbeats 400000 in
theorem ldexp20_zero (k : Int) (w : World) : Calls Yba.prog 20 #[.float .f64 0, .int .i64 k] w fun e w' => e = .returned (.float .f64 0) ∧ w' = w := by
  have h := zero_eq
  go_enter Yba.func20, Yba.ntmps20
  go_wp2
  go_ret
  exact ⟨rfl, rfl⟩
set_option maxHeartbeats 400000 in
theorem ldexp_zero (k : Int) (w : World) : Calls Yba.prog 12 #[.float .f64 0, .int .i64 k] w fun e w' => e = .returned (.float .f64 0) ∧ w' = w := by
  go_enter Yba.func12, Yba.ntmps12
  go_wp2_with (go_at_call 20; refine (ldexp20_zero _ _).mono ?_; rintro e w' ⟨rfl, rfl⟩)
  go_ret
  exact ⟨rfl, rfl⟩

theorem wd_lt (s : Bool) (x : Nat) (h : x < inf) : wd s x < 18446744073709551616 := by
  unfold inf at h; cases s <;> simp [wd] <;> omega

set_option maxRecDepth 100000 in
set_option maxHeartbeats 800000 in
/-- the law behind Ldexp's answer x -/
theorem near_tail (n : Int) (a1 : Int) (hb0 : 0 ≤ a1) (hb1 : a1 ≤ 255) (x0 x y e x2 : Nat) (hx64 : x < 18446744073709551616)
    (hm : Ieee.double.mul (floatOfInt .f64 (n.tmod 300001)) cMicro = some x0)
    (hL : ∀ w, Calls Yba.prog 12 #[.float .f64 x0, .int .i64 (-(a1 % 60))] w fun e w' => e = .returned (.float .f64 x) ∧ w' = w)
    (h1 : nearO x = some y) (h2 : isLe (absP x) 4599914934686071279 = true) (h3 : expO x = some e) (h4 : Ieee.double.add y one = some e) (h5 : isEq e e = true)
    (h6 : (isGe x 0 = true ∧ Ieee.double.mul two x = some x2) ∨ (isGe x 0 = false ∧ Ieee.double.div x two = some x2)) (h7 : isLe x y = true) (h8 : isLe y x2 = true) (w : World) :
    Calls Yba.prog 5 #[.int .i64 n, .int .u8 a1] w fun e w' => e = .returned (.bool true) ∧ w' = w := by
  have r0 : ∀ w, (binOp .mul 24 (.float .f64 (floatOfInt .f64 (n.tmod 300001))) (.float .f64 4517329193108106637)).run Yba.prog w = .ok (.float .f64 x0) w := rmul hm
  have r4 : ∀ w, (binOp .add 24 (.float .f64 y) (.float .f64 4607182418800017408)).run Yba.prog w = .ok (.float .f64 e) w := radd h4
  have c5 : (FloatKind.f64.format.order e e != some Ordering.eq) = false := by
    have : (FloatKind.f64.format.order e e == some Ordering.eq) = true := h5
    simp [bne, this]
  have c7 : (FloatKind.f64.format.order x y == some Ordering.lt || FloatKind.f64.format.order x y == some Ordering.eq) = true := h7
  have c8 : (FloatKind.f64.format.order y x2 == some Ordering.lt || FloatKind.f64.format.order y x2 == some Ordering.eq) = true := h8
  have HL : Hid (∀ w, Calls Yba.prog 12 #[.float .f64 x0, .int .i64 (-(a1 % 60))] w fun e w' => e = .returned (.float .f64 x) ∧ w' = w) := hL
  have H1 : Hid (nearO x = some y) := h1
  have H2 : Hid (isLe (absP x) 4599914934686071279 = true) := h2
  have H3 : Hid (expO x = some e) := h3
  clear hm h4 h5 h7 h8 hL h1 h2 h3
  rcases h6 with ⟨g1, g2⟩ | ⟨g1, g2⟩
  · have c6 : (FloatKind.f64.format.order x 0 == some Ordering.gt || FloatKind.f64.format.order x 0 == some Ordering.eq) = true := g1
    have r6 : ∀ w, (binOp .mul 24 (.float .f64 4611686018427387904) (.float .f64 x)).run Yba.prog w = .ok (.float .f64 x2) w := rmul g2
    clear g1 g2
    go_enter Yba.func5, Yba.ntmps5
    go_wp2_with (first | (go_at_call 12; refine (HL.out _).mono ?_; rintro e w' ⟨rfl, rfl⟩) | (go_at_call 13; refine (expm1_near _ _ hx64 H2.out H1.out _).mono ?_; rintro e w' ⟨rfl, rfl⟩) | (go_at_call 14; refine (exp_any _ _ H3.out _).mono ?_; rintro e w' ⟨rfl, rfl⟩))
    go_ret
    exact ⟨rfl, rfl⟩
  · have c6 : (FloatKind.f64.format.order x 0 == some Ordering.gt || FloatKind.f64.format.order x 0 == some Ordering.eq) = false := g1
    have r6 : ∀ w, (binOp .quo 24 (.float .f64 x) (.float .f64 4611686018427387904)).run Yba.prog w = .ok (.float .f64 x2) w := rdiv g2
    clear g1 g2
    go_enter Yba.func5, Yba.ntmps5
    go_wp2_with (first | (go_at_call 12; refine (HL.out _).mono ?_; rintro e w' ⟨rfl, rfl⟩) | (go_at_call 13; refine (expm1_near _ _ hx64 H2.out H1.out _).mono ?_; rintro e w' ⟨rfl, rfl⟩) | (go_at_call 14; refine (exp_any _ _ H3.out _).mono ?_; rintro e w' ⟨rfl, rfl⟩))
    go_ret
    exact ⟨rfl, rfl⟩

theorem near_zero (n : Int) (a1 : Int) (hb0 : 0 ≤ a1) (hb1 : a1 ≤ 255) (h0 : n.tmod 300001 = 0) (w : World) :
    Calls Yba.prog 5 #[.int .i64 n, .int .u8 a1] w fun e w' => e = .returned (.bool true) ∧ w' = w := by
  obtain ⟨y, e, x2, g1, g2, g3, g4, g5, g6, g7, g8, g9⟩ := law_pos 0 (Nat.zero_le _) (.inl rfl)
  have hm : Ieee.double.mul (floatOfInt .f64 (n.tmod 300001)) cMicro = some 0 := by rw [h0]; exact x0_zero
  have hL := fun w => ldexp_zero (-(a1 % 60)) w
  exact near_tail n a1 hb0 hb1 0 0 y e x2 (by decide) hm hL g1 g2 g3 g4 g5 (.inl ⟨g6, g7⟩) g8 g9 w

theorem near_plus (n : Int) (a1 : Int) (hb0 : 0 ≤ a1) (hb1 : a1 ≤ 255) (x X : Nat) (hX : X ≤ xm) (hX2 : 4503599627370496 ≤ X) (hXi : X < 18446744073709551616) (hm : Ieee.double.mul (floatOfInt .f64 (n.tmod 300001)) cMicro = some x)
    (hL : ∀ w, Calls Yba.prog 12 #[.float .f64 x, .int .i64 (-(a1 % 60))] w fun e w' => e = .returned (.float .f64 X) ∧ w' = w) (w : World) :
    Calls Yba.prog 5 #[.int .i64 n, .int .u8 a1] w fun e w' => e = .returned (.bool true) ∧ w' = w := by
  obtain ⟨y, e, x2, g1, g2, g3, g4, g5, g6, g7, g8, g9⟩ := law_pos X hX (.inr hX2)
  exact near_tail n a1 hb0 hb1 x X y e x2 hXi hm hL g1 g2 g3 g4 g5 (.inl ⟨g6, g7⟩) g8 g9 w

theorem near_minus (n : Int) (a1 : Int) (hb0 : 0 ≤ a1) (hb1 : a1 ≤ 255) (x X : Nat) (hX : X ≤ xm) (hX2 : 9007199254740992 ≤ X) (hXi : wd true X < 18446744073709551616) (hm : Ieee.double.mul (floatOfInt .f64 (n.tmod 300001)) cMicro = some x)
    (hL : ∀ w, Calls Yba.prog 12 #[.float .f64 x, .int .i64 (-(a1 % 60))] w fun e w' => e = .returned (.float .f64 (wd true X)) ∧ w' = w) (w : World) :
    Calls Yba.prog 5 #[.int .i64 n, .int .u8 a1] w fun e w' => e = .returned (.bool true) ∧ w' = w := by
  obtain ⟨y, e, x2, g1, g2, g3, g4, g5, g6, g7, g8, g9⟩ := law_neg X hX hX2
  generalize wd true X = Z at *
  exact near_tail n a1 hb0 hb1 x Z y e x2 hXi hm hL g1 g2 g3 g4 g5 (.inr ⟨g6, g7⟩) g8 g9 w

theorem ld_calls (s : Bool) (x k : Nat) (a1 : Int) (hk : a1 % 60 = (k : Int)) (hxi : x < inf) (h : ldexpO (wd s x) (-(k : Int)) = some (wd s (x - k * 4503599627370496))) (w : World) :
    Calls Yba.prog 12 #[.float .f64 (wd s x), .int .i64 (-(a1 % 60))] w fun e w' => e = .returned (.float .f64 (wd s (x - k * 4503599627370496))) ∧ w' = w := by
  rw [hk]
  exact ldexp_any _ _ _ (wd_lt _ _ hxi) h w

theorem xi_of {x : Nat} (h : x ≤ xm) : x < inf := Nat.lt_of_le_of_lt h (by decide)

theorem near_nz (n : Int) (a1 : Int) (hb0 : 0 ≤ a1) (hb1 : a1 ≤ 255) (s : Bool) (x X : Nat) (hXm : X ≤ xm) (hl : 9007199254740992 ≤ X)
    (x1 : Ieee.double.mul (floatOfInt .f64 (n.tmod 300001)) cMicro = some (wd s x))
    (hL : ∀ w, Calls Yba.prog 12 #[.float .f64 (wd s x), .int .i64 (-(a1 % 60))] w fun e w' => e = .returned (.float .f64 (wd s X)) ∧ w' = w) (w : World) :
    Calls Yba.prog 5 #[.int .i64 n, .int .u8 a1] w fun e w' => e = .returned (.bool true) ∧ w' = w := by
  have h64 := wd_lt s X (xi_of hXm)
  cases s
  · have e1 : wd false x = x := rfl
    have e2 : wd false X = X := rfl
    rw [e1] at x1 hL
    rw [e2] at hL h64
    exact near_plus n a1 hb0 hb1 x X hXm (by omega) h64 x1 hL w
  · exact near_minus n a1 hb0 hb1 (wd true x) X hXm hl h64 x1 hL w

theorem near_walk (n : Int) (a1 : Int) (hb0 : 0 ≤ a1) (hb1 : a1 ≤ 255) (hm1 : -300000 ≤ n.tmod 300001) (hm2 : n.tmod 300001 ≤ 300000) (w : World) :
    Calls Yba.prog 5 #[.int .i64 n, .int .u8 a1] w fun e w' => e = .returned (.bool true) ∧ w' = w := by
  rcases Classical.em (n.tmod 300001 = 0) with h0 | h0
  · exact near_zero n a1 hb0 hb1 h0 w
  · obtain ⟨x, x1, xl, xu⟩ := x0_bounds _ h0 hm1 hm2
    have hk : a1 % 60 = (((a1 % 60).toNat : Nat) : Int) := by omega
    have hk60 : (a1 % 60).toNat < 60 := by omega
    exact near_nz n a1 hb0 hb1 (decide (n.tmod 300001 < 0)) x _ (Nat.le_trans (Nat.sub_le _ _) xu) (x_low x _ hk60 xl) x1 (ld_calls _ x _ a1 hk (xi_of xu) (ldexp_x _ x _ hk60 xl xu)) w
end Go.Proofs.Ybulkbpbm.fl
