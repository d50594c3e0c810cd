/- Law CHanded: the row out of the walk. -/
import Derived.Test.YbulkboyuRows
import Derived.Test.YbulkboyuLawC
import Derived.WalkKit
import Derived.ProofKit
import Derived.OpenShut
import Derived.ShutString
import Derived.Laws.IdiomArrays
import Derived.Lib.SmallJoins
namespace Go.Proofs.Ybulkboyu.lawS3283CHanded
open Go.ChangeShapes Go.WideShapes Go.ChangeAt Go.RowKit
set_option linter.unusedVariables false

theorem own : ownKnob Yba.prog.godebug = none := by kernel_rfl
theorem cells48 : Yba.prog.cellsOf 48 = 3 := by kernel_rfl
theorem cells49 : Yba.prog.cellsOf 49 = 3 := by kernel_rfl
theorem cells47 : Yba.prog.cellsOf 47 = 1 := by kernel_rfl
theorem cells4 : Yba.prog.cellsOf 4 = 1 := by kernel_rfl

section
variable {H : Type} {enc : TypeId × Value → H} {W : World} {base : Nat} {spare : Nat → Bool} {held : Bool}
set_option maxRecDepth 100000 in
theorem open_u64s {r : Reach} {b0 : Nat} {v : Value} {d : DataW H} {p : List MemPlace} (hv : Value.okWide Yba.prog W r b0 48 v) (h : DataW.Trod enc Yba.prog W base spare held 48 v d p) :
    ∃ x0 x1 x2 : Int, v = .agg #[.int .u64 x0, .int .u64 x1, .int .u64 x2] ∧ d = .agg [.lit (.int .u64 x0), .lit (.int .u64 x1), .lit (.int .u64 x2)] ∧ p = [] ∧
      (Lit.int .u64 x0).wf = true ∧ (Lit.int .u64 x1).wf = true ∧ (Lit.int .u64 x2).wf = true := by
  obtain ⟨cs, rfl, hsz, _⟩ : ∃ cs, v = .agg cs ∧ cs.size = Yba.prog.cellsOf 48 ∧ Row.okWide Yba.prog W r b0 48 cs := by
    simpa [Value.okWide, Yba.underlying48] using hv
  rw [cells48] at hsz
  obtain ⟨c0, c1, c2, rfl⟩ := Joins.array3 hsz
  obtain ⟨fuel, hf⟩ := h
  obtain ⟨y0, y1, y2, m, hx, hy0, hy1, hy2⟩ := trod_array3 Yba.underlying48 cells47 hf
  obtain ⟨x0, e0, rfl, w0⟩ := DataW.trod_int Yba.underlying47 hy0
  obtain ⟨x1, e1, rfl, w1⟩ := DataW.trod_int Yba.underlying47 hy1
  obtain ⟨x2, e2, rfl, w2⟩ := DataW.trod_int Yba.underlying47 hy2
  simp at e0 e1 e2
  subst e0 e1 e2
  simp only [Prod.mk.injEq] at hx
  obtain ⟨rfl, rfl⟩ := hx
  exact ⟨x0, x1, x2, rfl, rfl, rfl, w0, w1, w2⟩

set_option maxRecDepth 100000 in
theorem open_bools {r : Reach} {b0 : Nat} {v : Value} {d : DataW H} {p : List MemPlace} (hv : Value.okWide Yba.prog W r b0 49 v) (h : DataW.Trod enc Yba.prog W base spare held 49 v d p) :
    ∃ x0 x1 x2 : Bool, v = .agg #[.bool x0, .bool x1, .bool x2] ∧ d = .agg [.lit (.bool x0), .lit (.bool x1), .lit (.bool x2)] ∧ p = [] := by
  obtain ⟨cs, rfl, hsz, _⟩ : ∃ cs, v = .agg cs ∧ cs.size = Yba.prog.cellsOf 49 ∧ Row.okWide Yba.prog W r b0 49 cs := by
    simpa [Value.okWide, Yba.underlying49] using hv
  rw [cells49] at hsz
  obtain ⟨c0, c1, c2, rfl⟩ := Joins.array3 hsz
  obtain ⟨fuel, hf⟩ := h
  obtain ⟨y0, y1, y2, m, hx, hy0, hy1, hy2⟩ := trod_array3 Yba.underlying49 cells4 hf
  obtain ⟨x0, e0, rfl⟩ := DataW.trod_bool Yba.underlying4 hy0
  obtain ⟨x1, e1, rfl⟩ := DataW.trod_bool Yba.underlying4 hy1
  obtain ⟨x2, e2, rfl⟩ := DataW.trod_bool Yba.underlying4 hy2
  simp at e0 e1 e2
  subst e0 e1 e2
  simp only [Prod.mk.injEq] at hx
  obtain ⟨rfl, rfl⟩ := hx
  exact ⟨x0, x1, x2, rfl, rfl, rfl⟩

theorem shut_u64s {x0 x1 x2 : Int} (w0 : (Lit.int .u64 x0).wf = true) (w1 : (Lit.int .u64 x1).wf = true) (w2 : (Lit.int .u64 x2).wf = true) :
    DataW.Trod enc Yba.prog W base spare held 48 (.agg #[.int .u64 x0, .int .u64 x1, .int .u64 x2]) (.agg [.lit (.int .u64 x0), .lit (.int .u64 x1), .lit (.int .u64 x2)]) [] :=
  ⟨2, by simp [DataW.trod, Value.cells, Yba.underlying48, Yba.underlying47, cells48, cells47, w0, w1, w2, show List.range 3 = [0, 1, 2] from rfl]⟩

theorem shut_bools {x0 x1 x2 : Bool} :
    DataW.Trod enc Yba.prog W base spare held 49 (.agg #[.bool x0, .bool x1, .bool x2]) (.agg [.lit (.bool x0), .lit (.bool x1), .lit (.bool x2)]) [] :=
  ⟨2, by simp [DataW.trod, Value.cells, Yba.underlying49, Yba.underlying4, cells49, cells4, show List.range 3 = [0, 1, 2] from rfl]⟩
end

theorem nat_u64 {x : Int} (h : (Lit.int .u64 x).wf = true) : ∃ n : Nat, x = (n : Int) ∧ n < 18446744073709551616 := by
  obtain ⟨h0, h1⟩ := bounds_u64 h
  exact ⟨x.toNat, by omega, by omega⟩

theorem pick3_lt {a b c : Nat} (ha : a < 18446744073709551616) (hb : b < 18446744073709551616) (hc : c < 18446744073709551616) (j : Nat) : handed.pick3 a b c j < 18446744073709551616 := by
  match j with
  | 0 => exact ha
  | 1 => exact hb
  | _ + 2 => exact hc

theorem pick3_lt2 {a b c a' b' c' : Nat} (ha : a < 18446744073709551616) (hb : b < 18446744073709551616) (hc : c < 18446744073709551616) (ha' : a' < 18446744073709551616) (hb' : b' < 18446744073709551616) (hc' : c' < 18446744073709551616) (j : Nat) :
    (handed.pick3 (a, a') (b, b') (c, c') j).1 < 18446744073709551616 ∧ (handed.pick3 (a, a') (b, b') (c, c') j).2 < 18446744073709551616 := by
  match j with
  | 0 => exact ⟨ha, ha'⟩
  | 1 => exact ⟨hb, hb'⟩
  | _ + 2 => exact ⟨hc, hc'⟩

theorem walk (a0 a1 a2 a3 a4 x0 x1 x2 y0 y1 y2 z0 z1 z2 : Int) (l0 l1 l2 d0 d1 d2 : Bool)
    (w0 : (Lit.int .u8 a0).wf = true) (w1 : (Lit.int .u8 a1).wf = true) (w2 : (Lit.int .u8 a2).wf = true) (w3 : (Lit.int .u8 a3).wf = true) (w4 : (Lit.int .u8 a4).wf = true)
    (hx0 : (Lit.int .u64 x0).wf = true) (hx1 : (Lit.int .u64 x1).wf = true) (hx2 : (Lit.int .u64 x2).wf = true)
    (hy0 : (Lit.int .u64 y0).wf = true) (hy1 : (Lit.int .u64 y1).wf = true) (hy2 : (Lit.int .u64 y2).wf = true)
    (hz0 : (Lit.int .u64 z0).wf = true) (hz1 : (Lit.int .u64 z1).wf = true) (hz2 : (Lit.int .u64 z2).wf = true) (w : World) :
    Calls Yba.prog 6 #[.int .u8 a0, .int .u8 a1, .int .u8 a2, .int .u8 a3, .int .u8 a4, .agg #[.int .u64 x0, .int .u64 x1, .int .u64 x2], .agg #[.bool l0, .bool l1, .bool l2], .agg #[.int .u64 y0, .int .u64 y1, .int .u64 y2], .agg #[.int .u64 z0, .int .u64 z1, .int .u64 z2], .agg #[.bool d0, .bool d1, .bool d2]] w
      fun e w' => e = .returned (.bool true) ∧ Grown w w' := by
  have b0 := bounds_u8 w0
  have b1 := bounds_u8 w1
  have b2 := bounds_u8 w2
  have b3 := bounds_u8 w3
  have b4 := bounds_u8 w4
  obtain ⟨x0, rfl, gx0⟩ := nat_u64 hx0
  obtain ⟨x1, rfl, gx1⟩ := nat_u64 hx1
  obtain ⟨x2, rfl, gx2⟩ := nat_u64 hx2
  obtain ⟨y0, rfl, gy0⟩ := nat_u64 hy0
  obtain ⟨y1, rfl, gy1⟩ := nat_u64 hy1
  obtain ⟨y2, rfl, gy2⟩ := nat_u64 hy2
  obtain ⟨z0, rfl, gz0⟩ := nat_u64 hz0
  obtain ⟨z1, rfl, gz1⟩ := nat_u64 hz1
  obtain ⟨z2, rfl, gz2⟩ := nat_u64 hz2
  exact handed.walk a0 a1 a2 a3 a4 (a0 % 65).toNat (a1 % 58).toNat (a2 % 70).toNat (a3 % 70).toNat (a4 % 3).toNat (by omega) (by omega) (by omega) (by omega) (by omega)
    x0 x1 x2 y0 y1 y2 z0 z1 z2 l0 l1 l2 d0 d1 d2 (pick3_lt gx0 gx1 gx2) (pick3_lt2 gy0 gy1 gy2 gz0 gz1 gz2) b0 b1 b2 b3 b4 w

set_option maxHeartbeats 1000000 in
set_option maxRecDepth 100000 in
theorem lifted (os : Os) (started : os.Started) (H : Type) (enc : TypeId × Value → H) :
    ReturnsInHanded {} Yba.checked os 6 .any (Rows.lawS3283CHandedSpec.pre6 enc Yba.prog Yba.f6 Rows.lawS3283CHandedRow.domain false) (Rows.lawS3283CHandedSpec.post enc Yba.prog Yba.f6 false true false false) := by
  refine returnsInHanded_of_change (C := Yba.checked) own started (by kernel_rfl) Yba.func6
    (ChangeSpec.witness6 (enc := enc) (C := Yba.checked) false ⟨#[], #[.int .u8 0, .int .u8 0, .int .u8 0, .int .u8 0, .int .u8 0, .agg #[.int .u64 0, .int .u64 0, .int .u64 0], .agg #[.bool false, .bool false, .bool false], .agg #[.int .u64 0, .int .u64 0, .int .u64 0], .agg #[.int .u64 0, .int .u64 0, .int .u64 0], .agg #[.bool false, .bool false, .bool false]], []⟩ 8 (by kernel_rfl) (by kernel_rfl) (by kernel_rfl) (by kernel_rfl)) ?_
  intro W base args ds gs before hval0 hW hcnd _
  have hval : ∀ (j : Nat) t v, Yba.f6.params[j]? = some t → args[j]? = some v → Value.okWide Yba.prog W .any base t v := hval0
  have hW' := hW
  obtain ⟨p, q, hA0, hV, rfl, hfz, hnd⟩ := hW
  have hA : DataW.TrodAll enc Yba.prog W 0 (fun _ => true) true Yba.f6.params.toList args.toList ds p := hA0
  rw [Yba.params6] at hA hval
  obtain ⟨v0, vs0, d0, ds0, p0, q0, hargs, rfl, rfl, h0, r0⟩ := trodAll_cons hA
  obtain ⟨v1, vs1, d1, ds1, p1, q1, rfl, rfl, rfl, h1, r1⟩ := trodAll_cons r0
  obtain ⟨v2, vs2, d2, ds2, p2, q2, rfl, rfl, rfl, h2, r2⟩ := trodAll_cons r1
  obtain ⟨v3, vs3, d3, ds3, p3, q3, rfl, rfl, rfl, h3, r3⟩ := trodAll_cons r2
  obtain ⟨v4, vs4, d4, ds4, p4, q4, rfl, rfl, rfl, h4, r4⟩ := trodAll_cons r3
  obtain ⟨v5, vs5, d5, ds5, p5, q5, rfl, rfl, rfl, h5, r5⟩ := trodAll_cons r4
  obtain ⟨v6, vs6, d6, ds6, p6, q6, rfl, rfl, rfl, h6, r6⟩ := trodAll_cons r5
  obtain ⟨v7, vs7, d7, ds7, p7, q7, rfl, rfl, rfl, h7, r7⟩ := trodAll_cons r6
  obtain ⟨v8, vs8, d8, ds8, p8, q8, rfl, rfl, rfl, h8, r8⟩ := trodAll_cons r7
  obtain ⟨v9, vs9, d9, ds9, p9, q9, rfl, rfl, rfl, h9, r9⟩ := trodAll_cons r8
  obtain ⟨rfl, rfl, rfl⟩ := trodAll_nil r9
  obtain rfl : args = #[v0, v1, v2, v3, v4, v5, v6, v7, v8, v9] := by cases args; simp_all
  obtain ⟨rfl, rfl⟩ := trodVars_none hV
  obtain ⟨a0, rfl, rfl, rfl, w0⟩ := open_int Yba.underlying5 (hval 0 5 v0 rfl rfl) h0
  obtain ⟨a1, rfl, rfl, rfl, w1⟩ := open_int Yba.underlying5 (hval 1 5 v1 rfl rfl) h1
  obtain ⟨a2, rfl, rfl, rfl, w2⟩ := open_int Yba.underlying5 (hval 2 5 v2 rfl rfl) h2
  obtain ⟨a3, rfl, rfl, rfl, w3⟩ := open_int Yba.underlying5 (hval 3 5 v3 rfl rfl) h3
  obtain ⟨a4, rfl, rfl, rfl, w4⟩ := open_int Yba.underlying5 (hval 4 5 v4 rfl rfl) h4
  obtain ⟨x0, x1, x2, rfl, rfl, rfl, wx0, wx1, wx2⟩ := open_u64s (hval 5 48 v5 rfl rfl) h5
  obtain ⟨l0, l1, l2, rfl, rfl, rfl⟩ := open_bools (hval 6 49 v6 rfl rfl) h6
  obtain ⟨y0, y1, y2, rfl, rfl, rfl, wy0, wy1, wy2⟩ := open_u64s (hval 7 48 v7 rfl rfl) h7
  obtain ⟨z0, z1, z2, rfl, rfl, rfl, wz0, wz1, wz2⟩ := open_u64s (hval 8 48 v8 rfl rfl) h8
  obtain ⟨m0, m1, m2, rfl, rfl, rfl⟩ := open_bools (hval 9 49 v9 rfl rfl) h9
  clear hA0 hval0
  simp only [List.append_nil] at hW'
  refine (walk a0 a1 a2 a3 a4 x0 x1 x2 y0 y1 y2 z0 z1 z2 l0 l1 l2 m0 m1 m2 w0 w1 w2 w3 w4 wx0 wx1 wx2 wy0 wy1 wy2 wz0 wz1 wz2 W).mono fun e W' ⟨he, hg⟩ => ?_
  subst he
  exact ⟨_, rfl, post_of_same (pa := []) (pv := []) hW' (fun _ _ _ => (trodAll_cons_mk (shut_bool Yba.underlying4 _) trodAll_mk0))
    (fun sp _ => (trodAll_cons_mk (shut_int Yba.underlying5 w0) (trodAll_cons_mk (shut_int Yba.underlying5 w1) (trodAll_cons_mk (shut_int Yba.underlying5 w2) (trodAll_cons_mk (shut_int Yba.underlying5 w3) (trodAll_cons_mk (shut_int Yba.underlying5 w4)
      (trodAll_cons_mk (shut_u64s wx0 wx1 wx2) (trodAll_cons_mk shut_bools (trodAll_cons_mk (shut_u64s wy0 wy1 wy2) (trodAll_cons_mk (shut_u64s wz0 wz1 wz2) (trodAll_cons_mk shut_bools trodAll_mk0))))))))))) (fun _ _ => rfl) rfl
    (hg.frame _) hg.2.1 (ok_one (by kernel_rfl) rfl (okWide_bool_mk Yba.underlying4 _))⟩

theorem over : Rows.lawS3283CHandedRow.holds Yba.pinned (OpenSpec.ofChange Rows.lawS3283CHandedSpec) :=
  OpenClaim.holds_of_wide 6 Yba.f6 rfl rfl rfl rfl rfl rfl rfl ⟨rfl, rfl, rfl, rfl, rfl⟩ rfl rfl rfl rfl rfl (by kernel_rfl) Yba.func6 (by kernel_rfl)
    (of_decide_eq_true (by kernel_rfl)) (by unfold Func.isWrapper; first | (rw [if_pos (by decide +kernel)]; kernel_rfl) | (rw [if_neg (by decide +kernel)]; exact ⟨rfl, rfl⟩))
    (fun os started H enc _ => lifted os started H enc)

theorem proved : Rows.LawS3283CHandedSaid := over
end Go.Proofs.Ybulkboyu.lawS3283CHanded
