import Derived.Test.YbulkbpayIter
import Derived.StillTailTactics
namespace Go.Proofs.Ybulkbpay.un
open Go.RowKit

section
variable {P : Program} {ops : Array Oper} {Q : Exit → Act → World → Prop} {l n : Nat} {md : Region.Mode}

theorem oper_round {o : Oper} {a : Act} {w : World} {K : Act → World → Prop} (hd : ∀ c, o.op ≠ .defer c) (hh : o.wp P a w K Q) : o.wpIn (Fence.wide.inRound l) n P a w K Q := by
  refine ⟨fun f _ => trivial, ?_⟩
  rw [Oper.semAt_eq _ _ _ hd]
  unfold Oper.wp at hh
  generalize (execOp a.eval o).run P w = r at *
  cases r with
  | ok x w' =>
    cases x <;> simp only [Oper.uponIn, Oper.upon] at hh ⊢ <;>
      first
        | exact hh
        | exact ⟨fun h => (by cases h), CallsIn.inRound l (callsIn_wide.2 hh)⟩
        | skip
    all_goals exact ⟨fun h => (by cases h), fun c cs _ => let ⟨v, w', r, s⟩ := hh c cs; ⟨v, w', r, stepsIn_wide.2 s⟩⟩
  | halt x w' => cases x <;> simp only [Oper.uponIn, Oper.upon] at hh ⊢ <;> exact hh

theorem any_round (hno : ¬ LetsOut Q) (hd : ∀ (i : Nat) (o : Oper), ops[i]? = some o → ∀ c, o.op ≠ .defer c) : ∀ (fuel : Nat) (listed : Array Bool) (a : Act) (w : World), wpAny P md ops Q fuel listed a w → wpAnyIn (Fence.wide.inRound l) n P md ops Q fuel listed a w
  | 0, _, _, _, h => h
  | fuel + 1, listed, a, w, h => ⟨h.1, fun i hi => by
      have := h.2 i hi
      unfold wpOp at this
      unfold wpOpIn
      split
      · rename_i ho; simp only [ho] at this; exact any_round hno hd fuel _ _ _ this
      · rename_i o ho
        simp only [ho] at this
        split
        · rename_i hw
          rw [if_pos hw] at this
          rcases this with h1 | ⟨_, h2⟩
          · exact Oper.wpIn_mono (fun a w => any_round hno hd fuel _ a w) (oper_round (hd i o ho) h1)
          · exact absurd h2 hno
        · rename_i hw
          rw [if_neg hw] at this
          exact ⟨fun f _ => trivial, any_round hno hd fuel _ _ _ this⟩⟩

theorem round_still_tail {id : Nat} {Q : Exit → Act → World → Prop} {a : Act} {w : World} {l : List Oper} (m : Nat) (hm : P.follows .mixedOrders = true) (hno : ¬ LetsOut Q) (hd : ∀ (i : Nat) (o : Oper), l.toArray[i]? = some o → ∀ c, o.op ≠ .defer c)
    (hB : Region.lexTailB .any l.toArray m = true)
    (h : wpStill P l.toArray { w with drawn := w.drawn + 1 } (fun a' => wpList P l.toArray Q (l.drop m) a' { w with drawn := w.drawn + 1 }) (l.take m) a) {l0 n : Nat} : (Code.region id l.toArray true).wpIn (Fence.wide.inRound l0) n P Q a w := by
  simp only [Region.lexTailB, Bool.and_eq_true, decide_eq_true_eq] at hB
  obtain ⟨⟨⟨⟨hsel, hn⟩, hs⟩, hc⟩, hlex⟩ := hB
  have hn' : m < l.length := by simpa using hn
  have htl : (l.take m).length = m := by simp; omega
  have hdl : (l.drop m).length = l.toArray.size - m := by simp
  have inv0 : HeadInv .any l.toArray m (Array.replicate l.toArray.size false) :=
    ⟨by simp, fun j oj _ hl => (by rw [getD_replicate_false] at hl; cases hl), fun t _ ht => getD_in (by simpa using ht) (getD_replicate_false _ _)⟩
  have H := wpAnyL_lex (md := .any) (g := l.toArray.size - m) hsel hs hc hn (l.take m) 0 _ a (fun j hj => by
    have hj' : j < m := by rw [htl] at hj; exact hj
    simp [hj']) (by simpa using htl) inv0 (by rw [htl]; exact hlex) h
  refine wpIn_region_any hm (any_round hno hd _ _ _ _ ?_)
  have := wpAny_of_head (Q' := Q) (g := l.toArray.size - m) (fun listed a' hL => by
    have := wpAny_of_seq (md := .any) (Q' := Q) (l.drop m) m listed a' { w with drawn := w.drawn + 1 } (fun j => by simp [List.getElem?_drop]) (by rw [hdl]; exact hL.1) hL.2
    rwa [hdl] at this) _ _ _ H
  rw [htl, show m + (l.toArray.size - m) = l.toArray.size by omega] at this
  exact this
end
end Go.Proofs.Ybulkbpay.un
