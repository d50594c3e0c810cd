import Derived.Test.YbulkboyuP2
namespace Go.Proofs.Ybulkboyu.scc
open Go.ChangeShapes Go.WideShapes Go.ChangeAt Go.RowKit Go.Shelf

theorem seq_cut {P : Program} {c d : Code} {Q : Exit → Act → World → Prop} {a : Act} {w : World} (h : ∀ K, (∀ a w, d.wp P Q a w → K a w) → c.wp P (Exit.then K Q) a w) : (c.seq d).wp P Q a w := wp_seq (h _ (fun _ _ h => h))

def tot (el : Nat → Nat) : Nat → Nat
  | 0 => 0
  | k + 1 => tot el k + el k
theorem tot_le {el : Nat → Nat} {n : Nat} (h : ∀ u, u < n → el u ≤ 70368744177664) : ∀ k, k ≤ n → tot el k ≤ k * 70368744177664
  | 0, _ => by simp [tot]
  | k + 1, hk => by
    have := tot_le h k (by omega)
    have := h k (by omega)
    simp only [tot]; omega
theorem le_tot {el : Nat → Nat} : ∀ k u, u < k → el u ≤ tot el k
  | 0, _, h => by omega
  | k + 1, u, h => by
    simp only [tot]
    by_cases e : u = k
    · subst e; omega
    · have := le_tot (el := el) k u (by omega); omega

/-- the graph as it came in, before its edges have been counted -/
structure Adj0 (n : Nat) (a0 : Option Addr) (ea : Nat → Option Addr) (el ec : Nat → Nat) (tg : Nat → Nat → Int) (W : World) : Prop where
  row : ∀ u, u < n → ∃ x, a0 = some x ∧ W.cell? (x.add u) = some (.slice (ea u) (el u) (ec u)) ∧ el u ≤ 70368744177664
  tgt : ∀ u, u < n → ∀ k, k < el u → ∃ y, ea u = some y ∧ W.cell? (y.add k) = some (.int .i32 (tg u k)) ∧ (Lit.int .i32 (tg u k)).wf = true

set_option maxRecDepth 100000 in
set_option maxHeartbeats 400000 in
theorem law_big (n : Nat) (a0 : Option Addr) (cap0 : Nat) (w : World) (hn : ¬ n ≤ 256) : Calls Yba.prog 3 #[.slice a0 n cap0] w (Rl w) := by
  have hd : decide ((n : Int) > 256) = true := by simp; omega
  go_enter Yba.func3, Yba.ntmps3
  go_wp2
  go_ret
  exact ⟨rfl, Below.refl _ _⟩

set_option maxRecDepth 100000 in
set_option maxHeartbeats 400000 in
theorem law_small (n : Nat) (a0 : Option Addr) (cap0 : Nat) (ea : Nat → Option Addr) (el ec : Nat → Nat) (tg : Nat → Nat → Int) (w : World) (hn : n ≤ 256) (hA : Adj0 n a0 ea el ec tg w) : Calls Yba.prog 3 #[.slice a0 n cap0] w (Rl w) := by
  have hd0 : decide ((n : Int) > 256) = false := by simp; omega
  have htl := tot_le (fun u hu => by obtain ⟨_, _, _, h⟩ := hA.row u hu; exact h)
  have htn := htl n (Nat.le_refl _)
  go_enter Yba.func3, Yba.ntmps3
  go_upto_region 5 with fail
  rename_i K2 hK2 K1 hK1
  have HK : Hid _ := hK2
  clear hK2
  go_wp2
  go_loopg [4, 35] n (fun g v4 v wr => ∃ k : Nat, k + g = n ∧ v = .int .i64 (k : Int) ∧ v4 = .int .i64 (tot el k : Int) ∧ wr = w)
  case atStart => exact ⟨0, by omega, rfl, rfl, rfl⟩
  case round =>
    obtain ⟨k, hk, rfl, rfl, rfl⟩ := hrel
    by_cases hlt : k < n
    · have hd : decide ((k : Int) < (n : Int)) = true := by simp; omega
      obtain ⟨x, rfl, qx, hel⟩ := hA.row k hlt
      have hb := htl k (by omega)
      go_wp2
      go_roundg (n - (k + 1))
      case measure => omega
      case rel => exact ⟨k + 1, by omega, by go_num, by simp [tot], rfl⟩
    · have hd : decide ((k : Int) < (n : Int)) = false := by simp; omega
      obtain rfl : n = k := by omega
      go_wp2
      refine HK.out _ _ ?_
      by_cases h4 : tot el n ≤ 4096
      · have hd4 : decide ((tot el n : Int) > 4096) = false := by simp; omega
        refine seq_cut fun K hK => ?_
        have HK3 : Hid _ := hK
        clear hK
        go_wp2
        refine HK3.out _ _ ?_
        exact p2 wr n a0 cap0 ea el ec tg wr hn ⟨fun u hu => by
          obtain ⟨x, h1, h2, _⟩ := hA.row u hu
          exact ⟨x, h1, h2, by have := le_tot (el := el) n u hu; omega⟩, hA.tgt⟩ (Below.refl _ _) _ _ _ _ _ _ _ _ _ _ _ _ _ _ _ _ _ _ _ _ _ _ _ _ _ _ _ _ _ _ _ _ _ _ _ _ _ _ _ _ _ _ _ _ _ _ _ _ _ _ _ _ _ _ _ _ _ _ _ _ _ _ _ _ _ _ _ _ _ _ _ _ _ _ _ _ _ _ _ _ _ _ _ _ _ _ _ _ _ _ _ _ _ _ _ _ _ _ _ _ _ _ _ _ _ _ _ _ _ _ _ _ _ _ _ _ _ _ _ _ _ _ _ _ _ _ _ _ _ _ _ _ _ _ _ _ _ _ _ _ _ _ _ _ _ _ _ _ _ _ _ _ _ _ _ _ _ _ _ _ _ _ _ _ _ _ _ _ _ _ _ _ _ _ _ _ _ _ _ _ _ _ _ _ _ _ _ _ _ _ _ _ _ _ _ _ _ _ _ _ _ _ _ _ _ _ _ _ _ _ _ _ _ _ _ _ _ _ _ _ _ _ _ _ _ _ _ _
      · have hd4 : decide ((tot el n : Int) > 4096) = true := by simp; omega
        go_wp2
        go_ret
        exact ⟨rfl, Below.refl _ _⟩
end Go.Proofs.Ybulkboyu.scc
