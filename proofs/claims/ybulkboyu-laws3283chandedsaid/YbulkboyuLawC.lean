import Derived.Test.YbulkboyuCheckLoop
import Derived.Deep.CutBlock
import Derived.Deep.DeepCutAuto
namespace Go.Proofs.Ybulkboyu.handed
open Go.ChangeShapes Go.WideShapes Go.ChangeAt Go.RowKit

theorem lt_up1 {a b : Nat} (h : a < b) : (a < b + 1) = True := eq_true (by omega)
theorem lt_up2 {a b : Nat} (h : a < b) : (a < b + 1 + 1) = True := eq_true (by omega)
theorem lt_up3 {a b : Nat} (h : a < b) : (a < b + 1 + 1 + 1) = True := eq_true (by omega)
theorem lt_up4 {a b : Nat} (h : a < b) : (a < b + 1 + 1 + 1 + 1) = True := eq_true (by omega)
theorem lt_up5 {a b : Nat} (h : a < b) : (a < b + 1 + 1 + 1 + 1 + 1) = True := eq_true (by omega)
theorem lt_up6 {a b : Nat} (h : a < b) : (a < b + 1 + 1 + 1 + 1 + 1 + 1) = True := eq_true (by omega)
theorem lt_up7 {a b : Nat} (h : a < b) : (a < b + 1 + 1 + 1 + 1 + 1 + 1 + 1) = True := eq_true (by omega)
theorem lt_up8 {a b : Nat} (h : a < b) : (a < b + 1 + 1 + 1 + 1 + 1 + 1 + 1 + 1) = True := eq_true (by omega)
theorem lt_up9 {a b : Nat} (h : a < b) : (a < b + 1 + 1 + 1 + 1 + 1 + 1 + 1 + 1 + 1) = True := eq_true (by omega)
attribute [local go_sem] lt_up1 lt_up2 lt_up3 lt_up4 lt_up5 lt_up6 lt_up7 lt_up8 lt_up9

set_option maxRecDepth 100000 in
set_option maxHeartbeats 4000000 in
theorem walk (a0 a1 a2 a3 a4 : Int) (p f q m c : Nat) (hp : a0 % 65 = (p : Int)) (hf : a1 % 58 = (f : Int)) (hq : a2 % 70 = (q : Int)) (hm : a3 % 70 = (m : Int)) (hc : a4 % 3 = (c : Int))
    (e0 e1 e2 lo0 lo1 lo2 hi0 hi1 hi2 : Nat) (l0 l1 l2 d0 d1 d2 : Bool)
    (he : ∀ j, pick3 e0 e1 e2 j < 18446744073709551616) (hs : ∀ j, ((pick3 (lo0, hi0) (lo1, hi1) (lo2, hi2)) j).1 < 18446744073709551616 ∧ ((pick3 (lo0, hi0) (lo1, hi1) (lo2, hi2)) j).2 < 18446744073709551616)
    (b0 : 0 ≤ a0 ∧ a0 ≤ 255) (b1 : 0 ≤ a1 ∧ a1 ≤ 255) (b2 : 0 ≤ a2 ∧ a2 ≤ 255) (b3 : 0 ≤ a3 ∧ a3 ≤ 255) (b4 : 0 ≤ a4 ∧ a4 ≤ 255) (w : World) :
    Calls Yba.prog 6 #[.int .u8 a0, .int .u8 a1, .int .u8 a2, .int .u8 a3, .int .u8 a4, .agg #[.int .u64 e0, .int .u64 e1, .int .u64 e2], .agg #[.bool l0, .bool l1, .bool l2], .agg #[.int .u64 lo0, .int .u64 lo1, .int .u64 lo2], .agg #[.int .u64 hi0, .int .u64 hi1, .int .u64 hi2], .agg #[.bool d0, .bool d1, .bool d2]] w
      fun e w' => e = .returned (.bool true) ∧ Grown w w' := by
  obtain ⟨p0, p1⟩ := b0
  obtain ⟨f0, f1⟩ := b1
  obtain ⟨q0, q1⟩ := b2
  obtain ⟨m0, m1⟩ := b3
  obtain ⟨c0, c1⟩ := b4
  have hp64 : p ≤ 64 := by omega
  have hf57 : f ≤ 57 := by omega
  have hq69 : q ≤ 69 := by omega
  have hm69 : m ≤ 69 := by omega
  have hc3 : c < 3 := by omega
  have HE : Hid (∀ j, pick3 e0 e1 e2 j < 18446744073709551616) := he
  have HS : Hid (∀ j, ((pick3 (lo0, hi0) (lo1, hi1) (lo2, hi2)) j).1 < 18446744073709551616 ∧ ((pick3 (lo0, hi0) (lo1, hi1) (lo2, hi2)) j).2 < 18446744073709551616) := hs
  clear he hs
  have mk50 := make50
  have mk69 := make69
  go_enter Yba.func6, Yba.ntmps6
  go_wp2
  simp only [hp, hf, hq, hm, hc, Nat.add_assoc, Nat.reduceAdd]
  clear p0 p1 f0 f1 q0 q1 m0 m1 c0 c1 hp hf hq hm hc mk50
  go_loopw [27] (fun i wr => ∃ k : Nat, k ≤ 3 ∧ i = .int .i64 k ∧ Pre w.heap.size w (pick3 e0 e1 e2) (pick3 l0 l1 l2) (pick3 (lo0, hi0) (lo1, hi1) (lo2, hi2)) (pick3 d0 d1 d2) k wr) (fun i _ => 3 - (intOf i).toNat)
  case atStart =>
    refine ⟨0, by omega, rfl, ?_⟩
    constructor
    case grown => go_grown
    case size => simp
    case e_ => intro j hj; match j, hj with | 0, _ => simp [go_sem, pick3] | 1, _ => simp [go_sem, pick3] | 2, _ => simp [go_sem, pick3]
    case l_ => intro j hj; match j, hj with | 0, _ => simp [go_sem, pick3] | 1, _ => simp [go_sem, pick3] | 2, _ => simp [go_sem, pick3]
    case lo_ => intro j hj; match j, hj with | 0, _ => simp [go_sem, pick3] | 1, _ => simp [go_sem, pick3] | 2, _ => simp [go_sem, pick3]
    case hi_ => intro j hj; match j, hj with | 0, _ => simp [go_sem, pick3] | 1, _ => simp [go_sem, pick3] | 2, _ => simp [go_sem, pick3]
    case dl_ => intro j hj; match j, hj with | 0, _ => simp [go_sem, pick3] | 1, _ => simp [go_sem, pick3] | 2, _ => simp [go_sem, pick3]
    case row => intro j hj; match j, hj with | 0, _ => simp [go_sem] | 1, _ => simp [go_sem] | 2, _ => simp [go_sem]
  case round =>
    obtain ⟨k, hk, rfl, hB⟩ := hrel
    by_cases hlt : k < 3
    · have x5 : w.heap.size + 5 < wr.heap.size := by rw [hB.size]; omega
      obtain ⟨v, z1⟩ := hB.row k hlt
      have y1 := fresh_frozen hB.grown (w.heap.size + 5) k (by omega)
      go_wp2
      go_roundw
      case rel => exact ⟨k + 1, by omega, by go_num, hB.step _ _ _ _⟩
      case measure => simp [intOf]; omega
    · have hk3 : 3 ≤ k := by omega
      have hB : Pre w.heap.size w (pick3 e0 e1 e2) (pick3 l0 l1 l2) (pick3 (lo0, hi0) (lo1, hi1) (lo2, hi2)) (pick3 d0 d1 d2) 3 wr := (show k = 3 by omega) ▸ hB
      have x5 : w.heap.size + 5 < wr.heap.size := by rw [hB.size]; omega
      obtain ⟨v, z1⟩ := hB.row c hc3
      have y1 := fresh_frozen hB.grown (w.heap.size + 5) c (by omega)
      go_wp2
      have hz := hB.size
      simp only [hz, Nat.add_assoc, Nat.reduceAdd]
      clear x5 z1 y1 hz
      go_loopw [31] (fun i wr => ∃ k : Nat, k ≤ 3 ∧ i = .int .i64 k ∧ Bld w.heap.size w (pick3 e0 e1 e2) (pick3 l0 l1 l2) (pick3 (lo0, hi0) (lo1, hi1) (lo2, hi2)) (pick3 d0 d1 d2) c p k wr) (fun i _ => 3 - (intOf i).toNat)
      case atStart => exact ⟨0, by omega, rfl, hB.bld hc3 _ rfl _ _ _ _ _ _⟩
      clear hB
      case round =>
        obtain ⟨k, hk, rfl, hB⟩ := hrel
        by_cases hlt : k < 3
        · have x0 : w.heap.size < wr.heap.size := by rw [hB.size]; omega
          have x1 : w.heap.size + 1 < wr.heap.size := by rw [hB.size]; omega
          have x2 : w.heap.size + 2 < wr.heap.size := by rw [hB.size]; omega
          have x3 : w.heap.size + 3 < wr.heap.size := by rw [hB.size]; omega
          have x4 : w.heap.size + 4 < wr.heap.size := by rw [hB.size]; omega
          have x5 : w.heap.size + 12 < wr.heap.size := by rw [hB.size]; omega
          have x6 : w.heap.size + 13 < wr.heap.size := by rw [hB.size]; omega
          have z1 := hB.t k hlt
          have z2 := hB.d k hlt
          have z3 := hB.f k hlt
          have z4 := hB.e_ k hlt
          have z5 := hB.l_ k hlt
          have z6 := hB.lo_ k hlt
          have z7 := hB.hi_ k hlt
          have z8 := hB.dl_ k hlt
          have y1 := fresh_frozen hB.grown (w.heap.size + 12) k (by omega)
          have y2 := fresh_frozen hB.grown (w.heap.size + 13) (k * 2) (by omega)
          have y3 := fresh_frozen hB.grown (w.heap.size + 13) (k * 2 + 1) (by omega)
          simp only [Nat.lt_irrefl, if_false] at z1 z2 z3
          have hdk : decide ((k : Int) < 3) = true := by simp; omega
          have hcc : c ≤ 0 ∨ (1 ≤ c ∧ c ≤ 1) ∨ 2 ≤ c := by omega
          rcases hcc with hcc | ⟨hcc, hcd⟩ | hcc
          all_goals
            go_wp2
            go_rounds 4
            go_region
            go_wp2
            go_roundw
            case rel => exact ⟨k + 1, by omega, by go_num, hB.step hlt _ _ _ _ _ _ (by first | (rw [if_pos (by omega)]) | (rw [not64 _ (HE.out k), if_neg (by omega)])) (by first | (rw [if_pos (by omega)]) | (rw [not64 _ (HE.out k), if_neg (by omega)])) (by first | (rw [if_pos (by omega)]) | (rw [not64 _ (HE.out k), if_neg (by omega)])) (by first | (rw [if_pos (by omega)]) | (rw [if_neg (by omega)])) (by first | (rw [if_pos (by omega)]) | (rw [if_neg (by omega)])) (by first | (rw [if_pos (by omega)]) | (rw [if_neg (by omega)]))⟩
            case measure => simp [intOf]; omega
        · have hk3 : 3 ≤ k := by omega
          have hB : Bld w.heap.size w (pick3 e0 e1 e2) (pick3 l0 l1 l2) (pick3 (lo0, hi0) (lo1, hi1) (lo2, hi2)) (pick3 d0 d1 d2) c p 3 wr := (show k = 3 by omega) ▸ hB
          have q1 := hB.pa
          have q2 := hB.pp
          have q3 := hB.pf
          have q4 := hB.pq
          go_wp2_with fail
          refine (handed_any w.heap.size _ _ _ _ _ _ (w.heap.size + 14) c p f q m _ _ _ _ rfl rfl rfl rfl (pick3 e0 e1 e2) (pick3 (lo0, hi0) (lo1, hi1) (lo2, hi2)) (pick3 l0 l1 l2) (pick3 d0 d1 d2) _ hp64 hf57 hq69 hm69 hc3 (by omega) (by omega) (by omega) q1 q2 q3 q4 (hB.lay hc3) HE.out HS.out hB.mem).mono ?_
          rintro e w1 ⟨rfl, hM⟩
          have hF := hB.fin hM
          clear q1 q2 q3 q4 hB hM
          have HF : Hid (Fin w.heap.size w (pick3 e0 e1 e2) (pick3 l0 l1 l2) (pick3 (lo0, hi0) (lo1, hi1) (lo2, hi2)) (fun j => gath (pick3 e0 e1 e2 j) q f ((pick3 (lo0, hi0) (lo1, hi1) (lo2, hi2)) j) (min m (p - q))) (pick3 d0 d1 d2) c w1) := hF
          clear hF
          go_upto_block 6 with fail
          refine check p f q m c e0 e1 e2 lo0 lo1 lo2 hi0 hi1 hi2 l0 l1 l2 d0 d1 d2 w w1 _ _ hp64 hf57 hq69 hm69 hc3 HE HS HF ?_ _ _ _ _ _ _ _ _ _ _ _ _ _ _ _ _ _ _ _ _ _ _ _ _ _ _ _ _ _ _ _ _ _ _ _ _ _ _ _ _ _ _ _ _ _ _ _ _ _ _ _ _ _ _ _ _ _ _ _ _ _ _ _ _ _ _ _ _ _ _ _ _ _ _ _ _ _ _ _ _ _ _ _ _ _ _ _ _ _ _ _ _ _ _ _ _ _ _ _ _ _ _ _ _ _ _ _ _ _ _ _ _ _ _ _ _ _ _ _ _ _ _ _ _ _ _ _ _ _ _ _ _ _ _ _ _ _ _ _ _ _ _ _ _ _ _ _ _ _ _ _ _ _ _ _ _ _ _ _ _ _ _ _ _ _ _ _ _ _ _ _ _ _ _ _ _ _ _ _ _ _ _ _ _ _ _ _ _ _ _ _ _ _ _ _ _ _ _ _ _ _ _ _ _ _ _ _ _ _ _ _ _ _ _ _ _ _ _ _ _ _ _ _ _ _ _ _ _ _ _ _ _ _ _ _ _ _ _ _ _ _ _ _ _ _ _ _ _ _ _ _ _ _ _ _ _ _ _ _ _ _ _ _ _ _ _ _ _ _ _ _ _ _ _ _ _ _ _ _ _ _
          intros
          go_wp2
          go_ret
          exact ⟨rfl, HF.out.grown⟩
end Go.Proofs.Ybulkboyu.handed
