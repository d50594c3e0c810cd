import Derived.Test.YbulkboyuRows
import Derived.Test.YbulkboyuP1
import Derived.WalkKit
import Derived.ProofKit
import Derived.OpenShut
import Derived.ShutString
import Derived.ChangeOld
import Derived.Below
import Derived.Deep.Matrix
import Derived.SizedLaws
namespace Go.Proofs.Ybulkboyu.lawS3283ASCC
open Go.ChangeShapes Go.WideShapes Go.ChangeAt Go.RowKit Go.Deep
set_option linter.unusedVariables false

theorem own : ownKnob Yba.prog.godebug = none := by kernel_rfl
theorem laidOut : laidOutB Yba.prog = true := by kernel_rfl
theorem cells23 : Yba.prog.cellsOf 23 = 1 := by kernel_rfl
theorem cells21 : Yba.prog.cellsOf 21 = 1 := by kernel_rfl
theorem bytes21 : Yba.prog.bytesOf 21 = 4 := by kernel_rfl

theorem weights_all {H : Type} {e : TypeId} {x : Nat} : ∀ {l : List (DataW H)} {d : DataW H}, d ∈ l → x ∈ d.weights Yba.prog e → x ∈ DataW.weightsAll Yba.prog e l
  | a :: l, d, hd, hx => by
    simp only [DataW.weightsAll, List.mem_append]
    rcases List.mem_cons.1 hd with rfl | hd
    · exact .inl hx
    · exact .inr (weights_all hd hx)

set_option maxRecDepth 100000 in
theorem lifted (os : Os) (started : os.Started) (H : Type) (enc : TypeId × Value → H) :
    ReturnsInHanded {} Yba.checked os 3 .any (Rows.lawS3283ASCCSpec.pre6 enc Yba.prog Yba.f3 Rows.lawS3283ASCCRow.domain false) (Rows.lawS3283ASCCSpec.post enc Yba.prog Yba.f3 false true false false) := by
  refine returnsInHanded_of_change_sized (C := Yba.checked) own started (by kernel_rfl) Yba.func3
    (ChangeSpec.witness6 (enc := enc) (C := Yba.checked) false ⟨#[], #[.slice none 0 0], []⟩ 8 (by kernel_rfl) (by kernel_rfl) (by kernel_rfl) (by kernel_rfl)) ?_
  intro W base args ds gs before hval0 hW hcnd hsz0 _
  have hval : ∀ (j : Nat) t v, Yba.f3.params[j]? = some t → args[j]? = some v → Value.okWide Yba.prog W .any base t v := hval0
  have hsz : (DataW.weightsEach Yba.prog (Yba.f3.params.toList ++ Rows.lawS3283ASCCSpec.plain.varTypes Yba.prog) (ds ++ gs)).all (· ≤ reachBytes) = true := hsz0
  have hW' := hW
  obtain ⟨p, q, hA0, hV, rfl, hfz, hnd⟩ := hW
  have hA : DataW.TrodAll enc Yba.prog W 0 (fun _ => true) true Yba.f3.params.toList args.toList ds p := hA0
  rw [Yba.params3] at hA hval hsz
  obtain ⟨v0, vs0, d0, ds0, p0, q0, hargs, rfl, rfl, h0, r0⟩ := trodAll_cons hA
  obtain ⟨rfl, rfl, rfl⟩ := trodAll_nil r0
  obtain rfl : args = #[v0] := by cases args; simp_all
  obtain ⟨rfl, rfl⟩ := trodVars_none hV
  obtain ⟨a0, len0, cap0, rfl⟩ := okWide_slice Yba.underlying22 (hval 0 22 v0 rfl rfl)
  have k0 := h0
  have lt0 : ∀ x ∈ p0, x.block < W.heap.size := by obtain ⟨m, hm⟩ := k0; exact DataW.trod_lt m _ _ _ hm
  clear hA0 hval0 hsz0
  have fin : ∀ e W', scc.Rl W e W' → ∃ v, e = .returned v ∧ Rows.lawS3283ASCCSpec.post enc Yba.checked.prog Yba.f3 false true false false W #[.slice a0 len0 cap0] v W' := by
    intro e W' ⟨he, bel⟩
    subst he
    exact ⟨_, rfl, _, _, _, [], _, [], hW', trodAll_mk1 (shut_bool Yba.underlying4 _), (trodAll_cons_mk (Below.trod laidOut (by kernel_rfl) (of_decide_eq_true (by kernel_rfl)) k0 bel lt0) trodAll_mk0), rfl, bel.frame _, fun h => by cases h⟩
  by_cases hn : len0 ≤ 256
  · obtain ⟨fuel, hf⟩ := h0
    have hA1 : ∃ ea el ec tg, scc.Adj0 len0 a0 ea el ec tg W := by
      rcases open_int_rows Yba.underlying22 Yba.underlying23 Yba.underlying21 cells23 cells21 hf with ⟨hcs, hx⟩ | ⟨a, len', cap', A, L, C, Z, hcs, _, hl, hm, hx, hrows⟩
      · simp [Value.cells] at hcs
        obtain ⟨rfl, rfl, rfl⟩ := hcs
        exact ⟨fun _ => none, fun _ => 0, fun _ => 0, fun _ _ => 0, ⟨fun u hu => by omega, fun u hu => by omega⟩⟩
      · simp [Value.cells] at hcs
        obtain ⟨rfl, rfl, rfl⟩ := hcs
        simp only [Prod.mk.injEq] at hx
        obtain ⟨rfl, rfl⟩ := hx
        refine ⟨A, L, C, fun r c => (Z r).getD c 0, ⟨fun u hu => ?_, fun u hu k hk => ?_⟩⟩
        · obtain ⟨h1, h2, h3, h4, h5, h6, h7⟩ := hrows u (by omega)
          refine ⟨a, rfl, h1, ?_⟩
          cases hAu : A u with
          | none => have := h6 hAu; omega
          | some a' =>
            have hw : (C u) * 4 ≤ reachBytes := by
              have hmem : (C u) * 4 ∈ DataW.weights Yba.prog 22 (.slice ((List.range len0).map fun r => intRow (H := H) .i32 (A r) (L r) (Z r)) ((List.range (cap0 - len0)).map fun j => intRow .i32 (A (len0 + j)) (L (len0 + j)) (Z (len0 + j)))) := by
                simp only [DataW.weights, Yba.underlying22, List.mem_cons, List.mem_append]
                refine .inr (.inl (weights_all (d := intRow .i32 (A u) (L u) (Z u)) (List.mem_map.2 ⟨u, List.mem_range.2 hu, rfl⟩) ?_))
                simp only [intRow, hAu, DataW.weights, Yba.underlying23, List.mem_cons]
                left
                rw [bytes21]
                simp [lits]
                omega
              have := List.all_eq_true.1 hsz _ (DataW.weights_mem_each (j := 0) (t := 22) rfl rfl _ hmem)
              simpa using this
            have : reachBytes < 2 ^ 47 := reachBytes_lt
            omega
        · obtain ⟨h1, h2, h3, h4, h5, h6, h7⟩ := hrows u (by omega)
          cases hAu : A u with
          | none => have := h6 hAu; omega
          | some a' =>
            refine ⟨a', rfl, (h7 a' hAu).2 k (by omega), h5 _ ?_⟩
            have hkl : k < (Z u).length := by omega
            simp [hkl]
    obtain ⟨ea, el, ec, tg, hA1⟩ := hA1
    exact (scc.law_small len0 a0 cap0 ea el ec tg W hn hA1).mono fin
  · exact (scc.law_big len0 a0 cap0 W hn).mono fin

theorem over : Rows.lawS3283ASCCRow.holds Yba.pinned (OpenSpec.ofChange Rows.lawS3283ASCCSpec) :=
  OpenClaim.holds_of_wide 3 Yba.f3 rfl rfl rfl rfl rfl rfl rfl ⟨rfl, rfl, rfl, rfl, rfl⟩ rfl rfl rfl rfl rfl (by kernel_rfl) Yba.func3 (by kernel_rfl)
    (of_decide_eq_true (by kernel_rfl)) (by unfold Func.isWrapper; first | (rw [if_pos (by decide +kernel)]; kernel_rfl) | (rw [if_neg (by decide +kernel)]; exact ⟨rfl, rfl⟩))
    (fun os started H enc _ => lifted os started H enc)

theorem proved : Rows.LawS3283ASCCSaid := over
end Go.Proofs.Ybulkboyu.lawS3283ASCC
