import Derived.Test.YbulkbpbmRows
import Derived.Test.YbulkbpbmPlain
import Derived.Test.YbulkbpbmWord
import Derived.WalkKit
import Derived.ProofKit
import Derived.OpenShut
import Derived.ShutString
import Derived.Handy
import Derived.Laws.FloatArith
import Derived.Laws.Externs
namespace Go.Proofs.Ybulkbpbm.fl
open Go.ChangeShapes Go.WideShapes Go.ChangeAt Go.RowKit

theorem ret_fl {a b : Nat} (h : a = b) : Ending.returned (.float .f64 a) = .returned (.float .f64 b) := by rw [h]
theorem fbits (b : Nat) (w : World) : (callFunc 8 #[.float .f64 b]).run Yba.prog w = .ok (.value (.int .u64 b)) w := by
  rw [run_callFunc_extern (e := Extern.MathFloatBits.float64bits) Yba.func8 (by kernel_rfl) (by kernel_rfl) (by kernel_rfl) (by kernel_rfl)]; rfl
theorem ffrom (b : Int) (w : World) : (callFunc 24 #[.int .u64 b]).run Yba.prog w = .ok (.value (.float .f64 b.toNat)) w := by
  rw [run_callFunc_extern (e := Extern.MathFloatBits.float64frombits) Yba.func24 (by kernel_rfl) (by kernel_rfl) (by kernel_rfl) (by kernel_rfl)]; rfl

theorem rmul {x y r : Nat} (h : Ieee.double.mul x y = some r) (w : World) : (binOp .mul 24 (.float .f64 x) (.float .f64 y)).run Yba.prog w = .ok (.float .f64 r) w := run_float_arith w .mul 24 .f64 x y r h
theorem rdiv {x y r : Nat} (h : Ieee.double.div x y = some r) (w : World) : (binOp .quo 24 (.float .f64 x) (.float .f64 y)).run Yba.prog w = .ok (.float .f64 r) w := run_float_arith w .quo 24 .f64 x y r h
theorem radd {x y r : Nat} (h : Ieee.double.add x y = some r) (w : World) : (binOp .add 24 (.float .f64 x) (.float .f64 y)).run Yba.prog w = .ok (.float .f64 r) w := run_float_arith w .add 24 .f64 x y r h
theorem rsub {x y r : Nat} (h : Ieee.double.sub x y = some r) (w : World) : (binOp .sub 24 (.float .f64 x) (.float .f64 y)).run Yba.prog w = .ok (.float .f64 r) w := run_float_arith w .sub 24 .f64 x y r h

theorem lt64 {o : Option Nat} {r : Nat} (h : o = some r) (hl : ∀ r, o = some r → r < 2 ^ Ieee.double.width) : r < 18446744073709551616 := by
  have := hl r h
  have e : 2 ^ Ieee.double.width = 18446744073709551616 := by decide
  omega

set_option maxHeartbeats 400000 in
theorem abs_any (b : Nat) (hb : b < 18446744073709551616) (w : World) : Calls Yba.prog 15 #[.float .f64 b] w fun e w' => e = .returned (.float .f64 (absP b)) ∧ w' = w := by
  have h1 := fbits
  have h2 := ffrom
  have h3 := abs_bits b hb
  clear hb
  go_enter Yba.func15, Yba.ntmps15
  go_wp2
  go_ret
  exact ⟨ret_fl rfl, rfl⟩

set_option maxHeartbeats 400000 in
theorem inf_any (w : World) : Calls Yba.prog 22 #[.int .i64 1] w fun e w' => e = .returned (.float .f64 9218868437227405312) ∧ w' = w := by
  have h2 := ffrom
  go_enter Yba.func22, Yba.ntmps22
  go_wp2
  go_ret
  exact ⟨rfl, rfl⟩

theorem isnan_any (b : Nat) (w : World) (h : isEq b b = true) : Calls Yba.prog 37 #[.float .f64 b] w fun e w' => e = .returned (.bool false) ∧ w' = w := by
  have h' : (FloatKind.f64.format.order b b != some Ordering.eq) = false := by
    have : (FloatKind.f64.format.order b b == some Ordering.eq) = true := h
    simp [bne, this]
  clear h
  go_enter Yba.func37, Yba.ntmps37
  go_wp2
  go_ret
  exact ⟨rfl, rfl⟩
theorem isinf_any (b : Nat) (hb : b < 18446744073709551616) (w : World) (h : isGt (absP b) 9218868437227405311 = false) : Calls Yba.prog 36 #[.float .f64 b, .int .i64 0] w fun e w' => e = .returned (.bool false) ∧ w' = w := by
  have h' : (FloatKind.f64.format.order (absP b) 9218868437227405311 == some Ordering.gt) = false := h
  clear h
  go_enter Yba.func36, Yba.ntmps36
  go_wp2_with (go_at_call 15; refine (abs_any _ hb _).mono ?_; rintro e w' ⟨rfl, rfl⟩)
  go_ret
  exact ⟨rfl, rfl⟩
theorem normalize_any (b : Nat) (hb : b < 18446744073709551616) (w : World) (h : isLt (absP b) 4503599627370496 = false) : Calls Yba.prog 38 #[.float .f64 b] w fun e w' => e = .returned (.tuple #[.float .f64 b, .int .i64 0]) ∧ w' = w := by
  have h' : (FloatKind.f64.format.order (absP b) 4503599627370496 == some Ordering.lt) = false := h
  clear h
  go_enter Yba.func38, Yba.ntmps38
  go_wp2_with (go_at_call 15; refine (abs_any _ hb _).mono ?_; rintro e w' ⟨rfl, rfl⟩)
  go_ret2
  exact ⟨rfl, rfl⟩

set_option maxRecDepth 100000 in
set_option maxHeartbeats 800000 in
theorem round_any (b : Nat) (hb : b < 18446744073709551616) (w : World) : Calls Yba.prog 23 #[.float .f64 b] w fun e w' => e = .returned (.float .f64 (roundP b)) ∧ w' = w := by
  have h1 := fbits
  have h2 := ffrom
  have hE := exp_bits_u b hb
  have hS := sign_bits b hb
  have hl : b / 9223372036854775808 < 2 := by omega
  have HB : Hid (b < 18446744073709551616) := hb
  clear hb
  by_cases c1 : eF b < 1022
  · have e : roundP b = b / 9223372036854775808 * 9223372036854775808 := by simp only [roundP, if_pos c1]
    rw [e]
    clear e
    unfold eF at c1
    generalize b / 4503599627370496 % 2048 = E at *
    generalize b / 9223372036854775808 * 9223372036854775808 = S at *
    go_enter Yba.func23, Yba.ntmps23
    go_wp2
    go_ret
    exact ⟨ret_fl rfl, rfl⟩
  by_cases c2 : eF b < 1023
  · have e : roundP b = b / 9223372036854775808 * 9223372036854775808 + one := by simp only [roundP, if_neg c1, if_pos c2]
    have hP := put_bits (b / 9223372036854775808) 1023 0 hl (by decide) (by decide)
    rw [e]
    clear e
    unfold eF at c1 c2
    have e5 : ((1023 * 4503599627370496 : Nat) : Int) = 4607182418800017408 := by decide
    rw [e5, Nat.add_zero, Nat.add_zero] at hP
    change _ = ((_ + one : Nat) : Int) at hP
    clear e5
    generalize b / 4503599627370496 % 2048 = E at *
    generalize b / 9223372036854775808 * 9223372036854775808 = S at *
    go_enter Yba.func23, Yba.ntmps23
    go_wp2
    go_ret
    exact ⟨ret_fl rfl, rfl⟩
  by_cases c3 : eF b < 1075
  · have e : roundP b = ((b + 2251799813685248 / 2 ^ (eF b - 1023)) % 18446744073709551616) &&& (18446744073709551615 - 4503599627370495 / 2 ^ (eF b - 1023)) := by simp only [roundP, if_neg c1, if_neg c2, if_pos c3]
    rw [e]
    clear e
    unfold eF at *
    generalize b / 4503599627370496 % 2048 = E at *
    go_enter Yba.func23, Yba.ntmps23
    go_wp2
    go_ret
    exact ⟨ret_fl (round_bits _ _), rfl⟩
  · have e : roundP b = b := by simp only [roundP, if_neg c1, if_neg c2, if_neg c3]
    rw [e]
    clear e
    unfold eF at *
    generalize b / 4503599627370496 % 2048 = E at *
    go_enter Yba.func23, Yba.ntmps23
    go_wp2
    go_ret
    exact ⟨ret_fl rfl, rfl⟩

set_option maxRecDepth 100000 in
set_option maxHeartbeats 1600000 in
theorem ldexp20 (b : Nat) (k : Int) (r : Nat) (hb : b < 18446744073709551616) (h : ldexpO b k = some r) (w : World) :
    Calls Yba.prog 20 #[.float .f64 b, .int .i64 k] w fun e w' => e = .returned (.float .f64 r) ∧ w' = w := by
  unfold ldexpO at h
  split at h
  case isFalse => cases h
  rename_i hc
  obtain ⟨g1, g2, g3, g4, k0, k1, k2, k3⟩ := hc
  have g1' : (FloatKind.f64.format.order b 0 == some Ordering.eq) = false := g1
  clear g1
  have h1 := fbits
  have h2 := ffrom
  have hE := exp_bits_i b hb
  have hl : b / 9223372036854775808 < 2 := by omega
  have hf : b % 4503599627370496 < 4503599627370496 := by omega
  obtain ⟨t, ht⟩ : ∃ t : Nat, (eF b : Int) + k = (t : Int) := ⟨((eF b : Int) + k).toNat, by omega⟩
  have ht2 : t < 2048 := by omega
  rw [ht, Int.toNat_natCast] at h
  obtain ⟨S, V, hS, hP, hV⟩ : ∃ S V : Nat, bits .andNot .u64 (b : Int) 9218868437227405312 = (S : Int) ∧ bits .or .u64 (S : Int) ((t * 4503599627370496 : Nat) : Int) = (V : Int) ∧ Ieee.double.mul one V = some r :=
    ⟨_, _, strike_bits b hb, put_bits _ t _ hl ht2 hf, h⟩
  have hM : ∀ w, (binOp .mul 24 (.float .f64 4607182418800017408) (.float .f64 V)).run Yba.prog w = .ok (.float .f64 r) w := rmul hV
  clear h hl hf hV
  unfold eF at ht k2 k3
  generalize b / 4503599627370496 % 2048 = E at hE ht k2 k3
  have hk : k = (t : Int) - (E : Int) := by omega
  subst hk
  clear ht
  have hP2 : bits .or .u64 (S : Int) (((t : Int) - (E : Int) + ((E : Int) - 1023) + 1023) * 4503599627370496) = (V : Int) := by
    rw [show ((t : Int) - (E : Int) + ((E : Int) - 1023) + 1023) * 4503599627370496 = ((t * 4503599627370496 : Nat) : Int) by omega]; exact hP
  clear hP
  go_enter Yba.func20, Yba.ntmps20
  go_wp2_with (first | (go_at_call 36; refine (isinf_any _ hb _ g2).mono ?_; rintro e w' ⟨rfl, rfl⟩) | (go_at_call 37; refine (isnan_any _ _ g3).mono ?_; rintro e w' ⟨rfl, rfl⟩) | (go_at_call 38; refine (normalize_any _ hb _ g4).mono ?_; rintro e w' ⟨rfl, rfl⟩))
  go_ret
  exact ⟨ret_fl rfl, rfl⟩

set_option maxHeartbeats 400000 in
theorem ldexp_any (b : Nat) (k : Int) (r : Nat) (hb : b < 18446744073709551616) (h : ldexpO b k = some r) (w : World) :
    Calls Yba.prog 12 #[.float .f64 b, .int .i64 k] w fun e w' => e = .returned (.float .f64 r) ∧ w' = w := by
  go_enter Yba.func12, Yba.ntmps12
  go_wp2_with (go_at_call 20; refine (ldexp20 _ _ _ hb h _).mono ?_; rintro e w' ⟨rfl, rfl⟩)
  go_ret
  exact ⟨rfl, rfl⟩

theorem nb_ge (i : Nat) (h : i < 13) : (FloatKind.f64.format.order (nb i) 4611686018427387904 == some Ordering.gt || FloatKind.f64.format.order (nb i) 4611686018427387904 == some Ordering.eq) = true := by
  have : ∀ i, i < 13 → (FloatKind.f64.format.order (nb i) 4611686018427387904 == some Ordering.gt || FloatKind.f64.format.order (nb i) 4611686018427387904 == some Ordering.eq) = true := by decide +kernel
  exact this i h
theorem nb_lt : (FloatKind.f64.format.order (nb 13) 4611686018427387904 == some Ordering.gt || FloatKind.f64.format.order (nb 13) 4611686018427387904 == some Ordering.eq) = false := by decide +kernel
theorem nb_sub (i : Nat) (h : i < 13) : Ieee.double.sub (nb i) 4607182418800017408 = some (nb (i + 1)) := by
  have : ∀ i, i < 13 → Ieee.double.sub (nb i) 4607182418800017408 = some (nb (i + 1)) := by decide +kernel
  exact this i h

theorem stepO_parts {r q n q' : Nat} (h : stepO r q n = some q') : ∃ a b, Ieee.double.mul r q = some a ∧ Ieee.double.div a n = some b ∧ Ieee.double.add 4607182418800017408 b = some q' := by
  unfold stepO at h
  cases h1 : Ieee.double.mul r q with
  | none => rw [h1] at h; cases h
  | some a =>
    rw [h1] at h
    simp only [Option.bind_some] at h
    cases h2 : Ieee.double.div a n with
    | none => rw [h2] at h; cases h
    | some b =>
      rw [h2] at h
      exact ⟨a, b, rfl, h2, h⟩

theorem hornerO_le {r i : Nat} {q : Nat} (h : hornerO r (i + 1) = some q) : ∃ p, hornerO r i = some p ∧ stepO r p (nb i) = some q := by
  unfold hornerO at h
  cases h1 : hornerO r i with
  | none => rw [h1] at h; cases h
  | some p => rw [h1] at h; exact ⟨p, rfl, h⟩

theorem hornerO_down {r : Nat} : ∀ (n : Nat) {q : Nat}, hornerO r n = some q → ∀ i, i ≤ n → ∃ p, hornerO r i = some p
  | 0, q, h, i, hi => by obtain rfl : i = 0 := by omega
                         exact ⟨q, h⟩
  | n + 1, q, h, i, hi => by
    by_cases e : i = n + 1
    · subst e; exact ⟨q, h⟩
    · obtain ⟨p, hp, _⟩ := hornerO_le h
      exact hornerO_down n hp i (by omega)

def fltOf : Value → Nat | .float _ b => b | _ => 0
theorem nb_down (i : Nat) (h : i < 13) : nb (i + 1) < nb i := by
  have : ∀ i, i < 13 → nb (i + 1) < nb i := by decide
  exact this i h

set_option maxHeartbeats 800000 in
theorem near_any (r y : Nat) (h : nearO r = some y) (w : World) : Calls Yba.prog 21 #[.float .f64 r] w fun e w' => e = .returned (.float .f64 y) ∧ w' = w := by
  unfold nearO at h
  cases hq : hornerO r 13 with
  | none => rw [hq] at h; cases h
  | some qe =>
    rw [hq] at h
    simp only [Option.bind_some] at h
    have hm := rmul h
    have HD : Hid (∀ i, i ≤ 13 → ∃ p, hornerO r i = some p) := hornerO_down 13 hq
    have HQ : Hid (hornerO r 13 = some qe) := hq
    clear hq h
    go_enter Yba.func21, Yba.ntmps21
    go_wp2
    go_loop [3, 4] (fun s t => ∃ i q : Nat, i ≤ 13 ∧ s = .float .f64 q ∧ t = .float .f64 (nb i) ∧ hornerO r i = some q) (fun _ t => fltOf t)
    case atStart => exact ⟨0, one, by omega, rfl, rfl, rfl⟩
    case round =>
      obtain ⟨i, q, hi, rfl, rfl, hq⟩ := hrel
      by_cases hlt : i < 13
      · obtain ⟨q', hq'⟩ := HD.out (i + 1) (by omega)
        obtain ⟨p, hp, hs⟩ := hornerO_le hq'
        rw [hq] at hp
        cases hp
        obtain ⟨a, b, m1, m2, m3⟩ := stepO_parts hs
        have r1 := rmul m1
        have r2 := rdiv m2
        have r3 := radd m3
        have r4 := rsub (nb_sub i hlt)
        have ge := nb_ge i hlt
        have HL : Hid (nb (i + 1) < nb i) := nb_down i hlt
        have HQ' : Hid (hornerO r (i + 1) = some q') := hq'
        clear hs m1 m2 m3 hq hq'
        have HN : Hid (nb (i + 1) = nb (i + 1)) := rfl
        generalize hn : nb i = n at *
        generalize hn' : nb (i + 1) = n' at *
        have HN1 : Hid (nb (i + 1) = n') := hn'
        clear hn hn'
        go_wp2
        go_round
        case rel => exact ⟨i + 1, q', by omega, rfl, by rw [HN1.out], HQ'.out⟩
        case measure => simp only [fltOf]; exact HL.out
      · obtain rfl : i = 13 := by omega
        have ge := nb_lt
        have e : q = qe := by have := HQ.out; rw [hq] at this; exact Option.some.inj this
        subst e
        clear hq
        generalize nb 13 = n at *
        go_wp2
        go_ret
        exact ⟨rfl, rfl⟩

theorem conv_any {b : Nat} {n : Int} (h : floatToIntVal .f64 b .i64 = some n) (w : World) : (convert 24 3 (.float .f64 b)).run Yba.prog w = .ok (.int .i64 n) w :=
  run_convert_float_int w 24 3 .f64 .i64 b n (by rw [Yba.underlying24]; rfl) Yba.underlying3 h

theorem expMid_parts {x y : Nat} (h : expMid x = some y) : ∃ q t1 t2 t3 r z s k, Ieee.double.div x 4604418534313441775 = some q ∧ Ieee.double.mul (roundP q) 4604418534311723008 = some t1 ∧ Ieee.double.sub x t1 = some t2 ∧
    Ieee.double.mul (roundP q) 4461442080421002358 = some t3 ∧ Ieee.double.sub t2 t3 = some r ∧ nearO r = some z ∧ Ieee.double.add one z = some s ∧ floatToIntVal .f64 (roundP q) .i64 = some k ∧ ldexpO s k = some y := by
  unfold expMid at h
  simp only [Option.bind_eq_some_iff] at h
  obtain ⟨q, h1, t1, h2, t2, h3, t3, h4, r, h5, z, h6, s, h7, k, h8, h9⟩ := h
  exact ⟨q, t1, t2, t3, r, z, s, k, h1, h2, h3, h4, h5, h6, h7, h8, h9⟩

set_option maxHeartbeats 800000 in
theorem exp_any (x y : Nat) (h : expO x = some y) (w : World) : Calls Yba.prog 14 #[.float .f64 x] w fun e w' => e = .returned (.float .f64 y) ∧ w' = w := by
  unfold expO at h
  split at h
  · rename_i c1
    cases h
    have c1' : (FloatKind.f64.format.order x 13872810886533480448 == some Ordering.lt) = true := c1
    clear c1
    go_enter Yba.func14, Yba.ntmps14
    go_wp2
    go_ret
    exact ⟨rfl, rfl⟩
  rename_i c1
  have c1' : (FloatKind.f64.format.order x 13872810886533480448 == some Ordering.lt) = false := by simpa [isLt] using c1
  clear c1
  split at h
  · rename_i c2
    cases h
    have c2' : (FloatKind.f64.format.order x 4649454506724284170 == some Ordering.gt) = true := c2
    clear c2
    go_enter Yba.func14, Yba.ntmps14
    go_wp2_with (go_at_call 22; refine (inf_any _).mono ?_; rintro e w' ⟨rfl, rfl⟩)
    go_ret
    exact ⟨rfl, rfl⟩
  rename_i c2
  have c2' : (FloatKind.f64.format.order x 4649454506724284170 == some Ordering.gt) = false := by simpa [isGt] using c2
  clear c2
  obtain ⟨q, t1, t2, t3, r, z, s, k, h1, h2, h3, h4, h5, h6, h7, h8, h9⟩ := expMid_parts h
  have hq64 := lt64 h1 (fun _ => Ieee.double.div_lt)
  have hs64 := lt64 h7 (fun _ => Ieee.double.add_lt)
  have r1 := rdiv h1
  have r2 := rmul h2
  have r3 := rsub h3
  have r4 := rmul h4
  have r5 := rsub h5
  have r7 : ∀ w, (binOp .add 24 (.float .f64 4607182418800017408) (.float .f64 z)).run Yba.prog w = .ok (.float .f64 s) w := radd h7
  have r8 := fun w => conv_any h8 w
  clear h h1 h2 h3 h4 h5 h7 h8
  go_enter Yba.func14, Yba.ntmps14
  go_wp2_with (first | (go_at_call 23; refine (round_any _ hq64 _).mono ?_; rintro e w' ⟨rfl, rfl⟩) | (go_at_call 21; refine (near_any _ _ h6 _).mono ?_; rintro e w' ⟨rfl, rfl⟩) | (go_at_call 12; refine (ldexp_any _ _ _ hs64 h9 _).mono ?_; rintro e w' ⟨rfl, rfl⟩))
  go_ret
  exact ⟨rfl, rfl⟩

set_option maxHeartbeats 800000 in
theorem expm1_near (x y : Nat) (hx : x < 18446744073709551616) (hl : isLe (absP x) 4599914934686071279 = true) (h : nearO x = some y) (w : World) : Calls Yba.prog 13 #[.float .f64 x] w fun e w' => e = .returned (.float .f64 y) ∧ w' = w := by
  have hl' : (FloatKind.f64.format.order (absP x) 4599914934686071279 == some Ordering.lt || FloatKind.f64.format.order (absP x) 4599914934686071279 == some Ordering.eq) = true := hl
  clear hl
  go_enter Yba.func13, Yba.ntmps13
  go_wp2_with (first | (go_at_call 15; refine (abs_any _ hx _).mono ?_; rintro e w' ⟨rfl, rfl⟩) | (go_at_call 21; refine (near_any _ _ h _).mono ?_; rintro e w' ⟨rfl, rfl⟩))
  go_ret
  exact ⟨rfl, rfl⟩

set_option maxHeartbeats 800000 in
theorem expm1_far (x e1 y : Nat) (hx : x < 18446744073709551616) (hl : isLe (absP x) 4599914934686071279 = false) (h : expO x = some e1) (hy : Ieee.double.sub e1 one = some y) (w : World) : Calls Yba.prog 13 #[.float .f64 x] w fun e w' => e = .returned (.float .f64 y) ∧ w' = w := by
  have hl' : (FloatKind.f64.format.order (absP x) 4599914934686071279 == some Ordering.lt || FloatKind.f64.format.order (absP x) 4599914934686071279 == some Ordering.eq) = false := hl
  have r1 : ∀ w, (binOp .sub 24 (.float .f64 e1) (.float .f64 4607182418800017408)).run Yba.prog w = .ok (.float .f64 y) w := rsub hy
  clear hl hy
  go_enter Yba.func13, Yba.ntmps13
  go_wp2_with (first | (go_at_call 15; refine (abs_any _ hx _).mono ?_; rintro e w' ⟨rfl, rfl⟩) | (go_at_call 14; refine (exp_any _ _ h _).mono ?_; rintro e w' ⟨rfl, rfl⟩))
  go_ret
  exact ⟨rfl, rfl⟩
end Go.Proofs.Ybulkbpbm.fl
