import Derived.Laws.FloatArith
/-! The functions of the law as plain functions of bits. No Go text here. -/
namespace Go.Proofs.Ybulkbpbm.fl

def one : Nat := 4607182418800017408
/-- 14.0, 13.0 .. 1.0 -/
def nb (i : Nat) : Nat := [4624070917402656768, 4623507967449235456, 4622945017495814144, 4622382067542392832, 4621819117588971520, 4621256167635550208, 4620693217682128896, 4619567317775286272, 4618441417868443648, 4617315517961601024, 4616189618054758400, 4613937818241073152, 4611686018427387904, 4607182418800017408].getD i 0

def absP (b : Nat) : Nat := b % 9223372036854775808
def eF (b : Nat) : Nat := b / 4503599627370496 % 2048
def isLe (x y : Nat) : Bool := FloatKind.f64.format.order x y == some Ordering.lt || FloatKind.f64.format.order x y == some Ordering.eq
def isEq (x y : Nat) : Bool := FloatKind.f64.format.order x y == some Ordering.eq
def isLt (x y : Nat) : Bool := FloatKind.f64.format.order x y == some Ordering.lt
def isGt (x y : Nat) : Bool := FloatKind.f64.format.order x y == some Ordering.gt

def stepO (r q n : Nat) : Option Nat := (Ieee.double.mul r q).bind fun a => (Ieee.double.div a n).bind fun b => Ieee.double.add one b
def hornerO (r : Nat) : Nat → Option Nat
  | 0 => some one
  | i + 1 => (hornerO r i).bind fun q => stepO r q (nb i)
def nearO (r : Nat) : Option Nat := (hornerO r 13).bind fun q => Ieee.double.mul r q

def roundP (b : Nat) : Nat :=
  if eF b < 1022 then b / 9223372036854775808 * 9223372036854775808
  else if eF b < 1023 then b / 9223372036854775808 * 9223372036854775808 + one
  else if eF b < 1075 then ((b + 2251799813685248 / 2 ^ (eF b - 1023)) % 18446744073709551616) &&& (18446744073709551615 - 4503599627370495 / 2 ^ (eF b - 1023))
  else b

def ldexpO (b : Nat) (k : Int) : Option Nat :=
  if isEq b 0 = false ∧ isGt (absP b) 9218868437227405311 = false ∧ isEq b b = true ∧ isLt (absP b) 4503599627370496 = false ∧ -5000 ≤ k ∧ k ≤ 5000 ∧ 1 ≤ (eF b : Int) + k ∧ (eF b : Int) + k ≤ 2046 then
    Ieee.double.mul one (b / 9223372036854775808 * 9223372036854775808 + ((eF b : Int) + k).toNat * 4503599627370496 + b % 4503599627370496)
  else none

/-- exp between its two edges -/
def expMid (x : Nat) : Option Nat :=
  (Ieee.double.div x 4604418534313441775).bind fun q =>
  (Ieee.double.mul (roundP q) 4604418534311723008).bind fun t1 =>
  (Ieee.double.sub x t1).bind fun t2 =>
  (Ieee.double.mul (roundP q) 4461442080421002358).bind fun t3 =>
  (Ieee.double.sub t2 t3).bind fun r =>
  (nearO r).bind fun z =>
  (Ieee.double.add one z).bind fun s =>
  (floatToIntVal .f64 (roundP q) .i64).bind fun k => ldexpO s k

def expO (x : Nat) : Option Nat :=
  if isLt x 13872810886533480448 then some 0 else if isGt x 4649454506724284170 then some 9218868437227405312 else expMid x

/-- the law at x, beyond ln 2 / 2 -/
def farAt (x : Nat) : Bool :=
  match expO x with
  | none => false
  | some e => match Ieee.double.sub e one with
    | none => false
    | some y => isEq y y && !isLt y 13830554455654793216 && !isLt y x && (isGt x 0 == isGt y 0)

def farOk (m : Int) : Bool :=
  match Ieee.double.mul (floatOfInt .f64 m) 4600336947366414254 with
  | none => false
  | some x => if isLe (absP x) 4599914934686071279 then isEq x 0 && (match nearO x with | some y => isEq y 0 | none => false) else farAt x

theorem farIn {n : Nat} {c : Int} (h : (List.range n).all (fun i => farOk ((i : Int) + c)) = true) (m : Int) (h1 : c ≤ m) (h2 : m < c + n) : farOk m = true := by
  have := List.all_eq_true.1 h (m - c).toNat (by simp; omega)
  rw [show (((m - c).toNat : Nat) : Int) + c = m by omega] at this
  exact this
end Go.Proofs.Ybulkbpbm.fl
