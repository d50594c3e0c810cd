import Derived.Test.YbulkbpayPhase
namespace Go.Proofs.Ybulkbpay.un
open Go.ChangeShapes Go.WideShapes Go.ChangeAt Go.RowKit

theorem row_some {w : World} {base : Nat} {e : TypeId} {size n co : Nat} {ao : Option Addr} {xs : List Value} (h : w.ownsRow base e size (.slice ao n co) n xs) (hn : 1 ≤ n) : ∃ g, ao = some ⟨g, 0, none⟩ := by
  rcases h.2 with ⟨_, h0⟩ | ⟨g, cap, cur, h1, _⟩
  · omega
  · cases h1; exact ⟨g, rfl⟩

structure P1 (N len : Nat) (w : World) (s6 i : Value) (g : Nat) (wr : World) : Prop where
  ex : ∃ (j : Nat) (ao ab aS : Option Addr) (co cb cs : Nat) (os : List OE) (bs : List BE) (ss : List (Nat → Int)) (sc : Nat → Int), j + g = len ∧ i = .int .i64 (j : Int) ∧ s6 = .slice aS ss.length cs ∧ St N wr ao ab aS co cb cs os bs ss sc ∧ Coh os bs ss sc ∧ Below N w wr ∧ os.length ≤ j + 1 ∧ bs.length ≤ j ∧ 1 ≤ os.length

set_option maxRecDepth 100000 in
set_option maxHeartbeats 1000000 in
theorem walk_small (a0 : Option Addr) (len0 cap0 : Nat) (a1 : Int) (w : World) (hl : len0 ≤ 1024) (w0 : ∀ j, j < len0 → ∃ x z, a0 = some x ∧ w.cell? (x.add j) = some (.int .u8 z) ∧ 0 ≤ z ∧ z < 256) :
    Calls Yba.prog 3 #[.slice a0 len0 cap0, .int .i64 a1] w fun e w' => e = .returned (.bool true) ∧ Below w.heap.size w w' := by
  have hl0 : decide ((len0 : Int) > 1024) = false := by simp; omega
  go_enter Yba.func3, Yba.ntmps3
  go_upto_region 5 with (first | (go_at_call 4; refine (new_any w).mono ?_; rintro e w2 ⟨rfl, st0, hb0⟩))
  have hp1 := push_any _ w2 _ _ _ _ _ _ _ _ _ _ st0 (by simp) (by simp)
  go_upto_region 6 with (first | (go_at_call 5; refine hp1.mono ?_; rintro e w3 ⟨ao, co, aS, cs, l, rfl, st1, hb1⟩))
  clear hp1
  have hb := hb0.trans hb1
  have coh := coh_start.push l
  have hst : P1 w.heap.size len0 w (.slice aS 1 cs) (.int .i64 0) len0 w3 := ⟨0, ao, none, aS, co, 0, cs, _, _, _, _, by omega, rfl, rfl, st1, coh, hb, by simp, by simp, by simp⟩
  rename_i K2 hK2 K1 hK1
  have HK : Hid _ := hK2
  clear hK2
  go_wp2
  go_loopg [6, 21] len0 (fun g s6 i wr => P1 w.heap.size len0 w s6 i g wr)
  case atStart => exact hst
  clear hst st0 st1 hb0 hb1 hb coh
  case round =>
    obtain ⟨j, ao, ab, aS, co, cb, cs, os, bs, ss, sc, hj, rfl, rfl, st, coh, hb, o1, o2, o3⟩ := hrel.ex
    clear hrel
    by_cases hlt : j < len0
    · have hd : decide ((j : Int) < (len0 : Int)) = true := by simp; omega
      obtain ⟨x, z, rfl, hc, z1, z2⟩ := w0 j hlt
      have hc' : wr.cell? (x.add j) = some (.int .u8 z) := (hb.cell (World.block_lt_of_cell? _ _ hc)).trans hc
      clear hc
      by_cases h3 : z % 4 = 3
      · have hq : (z % 4 == 3) = true := by simp [h3]
        have hp := push_any _ wr _ _ _ _ _ _ _ _ _ _ st (by omega) (by have := coh.len; omega)
        go_wp2_with (first | (go_at_call 5; refine hp.mono ?_; rintro e w4 ⟨ao', co', aS', cs', l', rfl, st', hb'⟩))
        go_roundg (len0 - (j + 1))
        case measure => omega
        case rel => exact ⟨j + 1, ao', ab, aS', co', cb, cs', _, _, _, _, by omega, by go_num, by simp, st', coh.push l', hb.trans hb', by simp; omega, by omega, by simp⟩
      · have hq : (z % 4 == 3) = false := by simp [h3]
        have hi : (z % 4).toNat < 3 := by omega
        have hpf := pref_any (z % 4).toNat (z % 4) (by omega) hi
        have hp := fun w' (e : w' = wr) sp => decl_any _ w' _ _ _ _ _ _ _ _ _ _ (e ▸ st) (by omega) (z % 4).toNat hi sp
        go_wp2_with (first | (go_at_call 7; refine (hpf _).mono ?_; rintro e w4 ⟨rfl, rfl⟩) | (go_at_call 6; refine (hp _ rfl _).mono ?_; rintro e w4 ⟨rfl, ab', cb', st', hb'⟩))
        go_roundg (len0 - (j + 1))
        case measure => omega
        case rel => exact ⟨j + 1, ao, ab', aS, co, cb', cs, _, _, _, _, by omega, by go_num, rfl, st', coh.decl hi _, hb.trans hb', by omega, by simp; omega, o3⟩
    · have hd : decide ((j : Int) < (len0 : Int)) = false := by simp; omega
      go_wp2
      obtain ⟨go, rfl⟩ := row_some st.ro o3
      obtain ⟨gs, rfl⟩ := row_some st.rs (by have := coh.len; omega)
      refine HK.out _ _ ?_
      exact phase2 w.heap.size w wr go gs co cb cs ab os bs ss sc hb st coh (by omega) (by omega) a1 _ _ _ _ _ _ _ _ _ _ _ _ _ _ _ _ _ _ _ _ _ _ _ _ _ _ _ _ _ _ _ _ _ _ _ _ _ _ _ _ _ _ _ _ _ _ _ _ _ _ _ _ _ _ _ _ _ _ _ _ _ _ _ _ _ _ _ _ _ _ _ _ _ _ _ _ _ _ _ _ _ _ _ _ _ _ _ _ _ _ _ _ _ _ _ _ _ _ _ _ _ _ _ _ _ _ _ _ _ _ _ _ _ _ _ _ _ _ _ _ _ _ _ _ _ _ _ _ _ _ _ _ _ _

set_option maxRecDepth 100000 in
theorem walk_big (a0 : Option Addr) (len0 cap0 : Nat) (a1 : Int) (w : World) (hl : ¬ len0 ≤ 1024) :
    Calls Yba.prog 3 #[.slice a0 len0 cap0, .int .i64 a1] w fun e w' => e = .returned (.bool true) ∧ Below w.heap.size w w' := by
  have hl0 : decide ((len0 : Int) > 1024) = true := by simp; omega
  go_enter Yba.func3, Yba.ntmps3
  go_wp2
  go_ret
  exact ⟨rfl, Below.refl _ _⟩
end Go.Proofs.Ybulkbpay.un
