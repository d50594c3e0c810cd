import Derived.Test.YbulkbpbmFl
namespace Go.Proofs.Ybulkbpbm.fl
open Go.ChangeShapes Go.WideShapes Go.ChangeAt Go.RowKit

theorem opt_match {o : Option Nat} {f : Nat → Bool} (h : (match o with | none => false | some x => f x) = true) : ∃ x, o = some x ∧ f x = true := by
  cases o with
  | none => cases h
  | some x => exact ⟨x, rfl, h⟩
theorem opt_match' {o : Option Nat} {f : Nat → Bool} (h : (match o with | some x => f x | none => false) = true) : ∃ x, o = some x ∧ f x = true := by
  cases o with
  | none => cases h
  | some x => exact ⟨x, rfl, h⟩

set_option maxRecDepth 100000 in
set_option maxHeartbeats 800000 in
theorem far_walk (n : Int) (hok : farOk (n.tmod 4000) = true) (w : World) :
    Calls Yba.prog 6 #[.int .i64 n] w fun e w' => e = .returned (.bool true) ∧ w' = w := by
  unfold farOk at hok
  obtain ⟨x, hx, hc⟩ := opt_match hok
  have hx64 := lt64 hx (fun _ => Ieee.double.mul_lt)
  have r0 := rmul hx
  clear hok hx
  by_cases hle : isLe (absP x) 4599914934686071279 = true
  · rw [if_pos hle] at hc
    simp only [Bool.and_eq_true] at hc
    obtain ⟨c1, c2⟩ := hc
    obtain ⟨y, hy, c3⟩ := opt_match' c2
    have c1' : (FloatKind.f64.format.order x 0 == some Ordering.eq) = true := c1
    have c3' : (FloatKind.f64.format.order y 0 == some Ordering.eq) = true := c3
    have hl' : (FloatKind.f64.format.order (absP x) 4599914934686071279 == some Ordering.lt || FloatKind.f64.format.order (absP x) 4599914934686071279 == some Ordering.eq) = true := hle
    clear c1 c2 c3
    have HL : Hid (isLe (absP x) 4599914934686071279 = true) := hle
    clear hle
    go_enter Yba.func6, Yba.ntmps6
    go_wp2_with (first | (go_at_call 15; refine (abs_any _ hx64 _).mono ?_; rintro e w' ⟨rfl, rfl⟩) | (go_at_call 13; refine (expm1_near _ _ hx64 HL.out hy _).mono ?_; rintro e w' ⟨rfl, rfl⟩))
    go_ret
    exact ⟨rfl, rfl⟩
  · rw [if_neg hle] at hc
    have hle' : isLe (absP x) 4599914934686071279 = false := by simpa using hle
    have hl' : (FloatKind.f64.format.order (absP x) 4599914934686071279 == some Ordering.lt || FloatKind.f64.format.order (absP x) 4599914934686071279 == some Ordering.eq) = false := hle'
    have HL : Hid (isLe (absP x) 4599914934686071279 = false) := hle'
    clear hle hle'
    unfold farAt at hc
    obtain ⟨e1, he, hc⟩ := opt_match hc
    obtain ⟨y, hy, hc⟩ := opt_match hc
    have r1 : ∀ w, (binOp .sub 24 (.float .f64 e1) (.float .f64 4607182418800017408)).run Yba.prog w = .ok (.float .f64 y) w := rsub hy
    simp only [Bool.and_eq_true] at hc
    obtain ⟨⟨⟨c1, c2⟩, c3⟩, c4⟩ := hc
    have HY : Hid (Ieee.double.sub e1 one = some y) := hy
    have HX : Hid (expO x = some e1) := he
    clear hy he
    have c1' : (FloatKind.f64.format.order y y != some Ordering.eq) = false := by
      have : (FloatKind.f64.format.order y y == some Ordering.eq) = true := c1
      simp [bne, this]
    have c2' : (FloatKind.f64.format.order y 13830554455654793216 == some Ordering.lt) = false := by simpa [isLt] using c2
    have c3' : (FloatKind.f64.format.order y x == some Ordering.lt) = false := by simpa [isLt] using c3
    have c4' : ((FloatKind.f64.format.order x 0 == some Ordering.gt) == (FloatKind.f64.format.order y 0 == some Ordering.gt)) = true := c4
    clear c1 c2 c3 c4
    go_enter Yba.func6, Yba.ntmps6
    go_wp2_with (first | (go_at_call 15; refine (abs_any _ hx64 _).mono ?_; rintro e w' ⟨rfl, rfl⟩) | (go_at_call 13; refine (expm1_far _ _ _ hx64 HL.out HX.out HY.out _).mono ?_; rintro e w' ⟨rfl, rfl⟩) | (go_at_call 14; refine (exp_any _ _ HX.out _).mono ?_; rintro e w' ⟨rfl, rfl⟩))
    go_ret
    exact ⟨rfl, rfl⟩
end Go.Proofs.Ybulkbpbm.fl
