import Derived.Test.YbulkboyuRPlain
namespace Go.Proofs.Ybulkboyu.scc
open Go.ChangeShapes Go.WideShapes Go.ChangeAt Go.RowKit Go.Shelf

theorem i32r {t : Int} (h : (Lit.int .i32 t).wf = true) : -2147483648 ≤ t ∧ t ≤ 2147483647 := by
  have e1 : IntKind.i32.min = -2147483648 := by decide
  have e2 : IntKind.i32.max = 2147483647 := by decide
  simp only [Lit.wf, e1, e2, Bool.and_eq_true, decide_eq_true_eq] at h
  exact h

theorem qr_start (n : Nat) (E : Nat → Nat → Prop) (W : World) : Qr n E W 0 (W.alloc (.cells (rep (.slice none 0 0) n) 42)) :=
  ⟨(Below.refl _ _).alloc (Nat.le_refl _) _, by simp, fun o => by rw [World.frozen?_alloc_at _ _ _ _ rfl], fun j hj => ⟨.slice none 0 0, by rw [World.cell?_alloc_at _ _ _ _ rfl]; exact rep_at rfl n j hj⟩, ⟨fun _ => 0, fun _ _ => false, fun j hj => by omega⟩⟩

theorem alloc_new (w : World) (o : Obj) : (w.alloc o).heap[w.heap.size]? = some o := by
  rw [alloc_heap]; simp

theorem se_start (n k : Nat) (hk : k < n) (wq : World) : Se n wq.heap.size wq (setB (fun _ => false) k true) [k] (some ⟨wq.heap.size + 1, 0, none⟩) 1 ((wq.alloc (.cells ((rep (.bool false) n).setIfInBounds k (.bool true)) 4)).alloc (.cells #[.int .i64 (k : Int)] 3)) := by
  have hz : (wq.alloc (.cells ((rep (.bool false) n).setIfInBounds k (.bool true)) 4)).heap.size = wq.heap.size + 1 := by simp
  have hrs : (rep (.bool false) n).size = n := by simp [rep, madeCells, Value.cells]
  refine ⟨((Below.refl _ _).alloc (Nat.le_refl _) _).alloc (by rw [hz]; omega) _, by simp, fun t ht => ?_, fun o => ?_, ?_⟩
  · rw [World.cell?_alloc_past _ _ _ (by show wq.heap.size < _; omega), World.cell?_alloc_at _ _ _ _ rfl]
    by_cases e : t = k
    · subst e; simp [setB, hrs, ht]
    · rw [Array.getElem?_setIfInBounds_ne (fun e' => e e'.symm)]
      simp only [setB, if_neg e]; exact rep_at rfl n t ht
  · rw [World.frozen?_alloc_past _ _ _ (by show wq.heap.size < _; omega), World.frozen?_alloc_at _ _ _ _ rfl]
  · refine ⟨rfl, .inr ⟨wq.heap.size + 1, 1, #[.int .i64 (k : Int)], rfl, by omega, ?_, Nat.le_refl _, by decide, rfl, rfl⟩⟩
    have := alloc_new (wq.alloc (.cells ((rep (.bool false) n).setIfInBounds k (.bool true)) 4)) (.cells #[.int .i64 (k : Int)] 3)
    rw [hz] at this
    exact this

structure Lw (n : Nat) (E : Nat → Nat → Prop) (k : Nat) (wq : World) (v : Value) (g : Nat) (wr : World) : Prop where
  ex : ∃ (r : Nat → Bool) (st : List Nat) (aS : Option Addr) (cS : Nat), v = .slice aS st.length cS ∧ Se n wq.heap.size wq r st aS cS wr ∧ DF n E k r st none (fun _ => False) ∧ st.length + unm n r = g ∧ g ≤ n + 1
structure Lf (n : Nat) (E : Nat → Nat → Prop) (k u : Nat) (el : Nat) (tg : Nat → Int) (wq : World) (m : Nat) (v7 v : Value) (g : Nat) (wr : World) : Prop where
  ex : ∃ (j : Nat) (r : Nat → Bool) (st : List Nat) (aS : Option Addr) (cS : Nat), j + g = el ∧ v = .int .i64 (j : Int) ∧ v7 = .slice aS st.length cS ∧ Se n wq.heap.size wq r st aS cS wr ∧ DF n E k r st (some u) (fun t => t < n ∧ ∃ j', j' < j ∧ tg j' = (t : Int)) ∧ st.length + unm n r = m

set_option maxRecDepth 100000 in
set_option maxHeartbeats 400000 in
theorem reach_any (n : Nat) (a0 : Option Addr) (cap0 : Nat) (ea : Nat → Option Addr) (el ec : Nat → Nat) (tg : Nat → Nat → Int) (W : World) (hn : n ≤ 256) (hA : Adj n a0 ea el ec tg W) :
    Calls Yba.prog 8 #[.slice a0 n cap0] W fun e W' => e = .returned (.slice (some ⟨W.heap.size, 0, none⟩) n n) ∧ Qr n (Ed n el tg) W n W' := by
  have m40 := make40 n (by omega) W
  have hst := qr_start n (Ed n el tg) W
  go_enter Yba.func8, Yba.ntmps8
  go_wp2
  clear m40
  generalize W.alloc (.cells (rep (.slice none 0 0) n) 42) = W1 at hst ⊢
  go_loopg [5] n (fun g v wr => ∃ k : Nat, k + g = n ∧ v = .int .i64 (k : Int) ∧ Qr n (Ed n el tg) W k wr)
  case atStart => exact ⟨0, by omega, rfl, hst⟩
  clear hst
  case round =>
    obtain ⟨k, hk, rfl, hq⟩ := hrel
    obtain ⟨wq, rfl⟩ : ∃ x, x = wr := ⟨_, rfl⟩
    obtain ⟨gk0, rfl⟩ : ∃ x, x = gk := ⟨_, rfl⟩
    by_cases hlt : k < n
    · have hd : decide ((k : Int) < (n : Int)) = true := by simp; omega
      have m42 := make42 n (by omega) wq
      have z1 : (wq.alloc (.cells (rep (.bool false) n) 4)).cell? ⟨wq.heap.size, k, none⟩ = some (.bool false) := by rw [World.cell?_alloc_at _ _ _ _ rfl]; exact rep_at rfl n k hlt
      have z2 : (wq.alloc (.cells (rep (.bool false) n) 4)).frozen? ⟨wq.heap.size, k, none⟩ = false := by rw [World.frozen?_alloc_at _ _ _ _ rfl]
      have hse := se_start n k hlt wq
      go_upto_region 9 with fail
      refine at_world fun W2 hW2 => ?_
      rw [← hW2] at hse
      clear hW2 m42 z1 z2
      have hdf := DF.start (E := Ed n el tg) hlt (r0 := fun _ => false) (fun _ => rfl)
      have hL0 : Lw n (Ed n el tg) k wq (.slice (some ⟨wq.heap.size + 1, 0, none⟩) 1 1) (1 + unm n (setB (fun _ => false) k true)) W2 := ⟨_, [k], _, _, rfl, hse, hdf, rfl, by have := unm_le n (setB (fun _ => false) k true); omega⟩
      have hq1 := hq.sz
      go_loopg [7] (1 + unm n (setB (fun _ => false) k true)) (fun g v w2 => Lw n (Ed n el tg) k wq v g w2)
      case atStart => exact hL0
      clear hL0 hdf hse
      case round =>
        obtain ⟨r, st, aS, cS, rfl, hs, hdf, hg, hgn⟩ := hrel.ex
        clear hrel
        have hB1 : Below W.heap.size W wr := hq.bel.trans (hs.bel.mono (by omega))
        have hA1 := hA.below hB1
        cases st with
        | nil =>
          obtain ⟨v0, hv0⟩ := hq.zs k hlt
          have q0 : wr.cell? ⟨W.heap.size, k, none⟩ = some v0 := (cells_at (hs.bel.block _ (by omega)) _).trans hv0
          have f0 : wr.frozen? ⟨W.heap.size, k, none⟩ = false := (frozen_at (hs.bel.block _ (by omega)) _).trans (hq.fr k)
          have hnx := hq.next hlt hs hdf
          go_wp2
          go_roundg (n - (k + 1))
          case measure => omega
          case rel => exact ⟨k + 1, by omega, by go_num, hnx⟩
        | cons u st =>
          obtain ⟨⟨gS, rfl, q9, r1, r2⟩, hs2⟩ := hs.pop
          have hun : u < n := (hdf.rc u (hdf.m u List.mem_cons_self)).1
          obtain ⟨x, rfl, qx, hel⟩ := hA1.row u hun
          have hd0 : decide (((st.length + 1 : Nat) : Int) > 0) = true := by simp
          have s1 : (st.length : Int) ≤ (cS : Int) := by omega
          have s2 : st.length ≤ cS := by omega
          obtain ⟨eau, heau⟩ : ∃ x, Hid (x = ea u) := ⟨_, rfl⟩
          rw [← heau.out] at qx
          have hg' : st.length + unm n r = gk - 1 := by simp at hg; omega
          have hgp : 0 < gk := by simp at hg; omega
          have hsl : st.length ≤ 257 := by omega
          have hLf : Hid (Lf n (Ed n el tg) k u (el u) (tg u) wq (gk - 1) (.slice (some ⟨gS, 0, none⟩) st.length cS) (.int .i64 0) (el u) wr) := Lf.mk ⟨0, r, st, _, _, by omega, rfl, rfl, hs2, hdf.pop.dmono (fun t ht => by obtain ⟨_, j', h, _⟩ := ht; omega), hg'⟩
          clear hs hs2 hdf
          go_wp2
          clear q9 s1 s2 hd0 qx
          obtain ⟨wp, rfl⟩ : ∃ x, x = wr := ⟨_, rfl⟩
          obtain ⟨gk1, rfl⟩ : ∃ x, x = gk := ⟨_, rfl⟩
          go_loopg [7, 46] (el u) (fun g v7 v w3 => Lf n (Ed n el tg) k u (el u) (tg u) wq (gk1 - 1) v7 v g w3)
          case atStart => exact hLf.out
          clear hLf hA1 hB1
          case round =>
            obtain ⟨j, r', st', aS', cS', hj, rfl, rfl, hs3, hdf3, hm3⟩ := hrel.ex
            clear hrel
            by_cases hjl : j < el u
            · have hd1 : decide ((j : Int) < (el u : Int)) = true := by simp; omega
              have hB3 : Below W.heap.size W wr := hq.bel.trans (hs3.bel.mono (by omega))
              obtain ⟨y, he, qy, hwf⟩ := (hA.below hB3).tgt u hun j hjl
              rw [← heau.out] at he
              clear heau
              subst he
              have ht := i32r hwf
              by_cases hr : 0 ≤ tg u j ∧ tg u j < (n : Int)
              · obtain ⟨t, htj⟩ : ∃ t : Nat, tg u j = (t : Int) := ⟨(tg u j).toNat, by omega⟩
                have htn : t < n := by omega
                have hE : Ed n el tg u t := ⟨hun, htn, j, hjl, htj⟩
                rw [htj] at qy
                have hd2 : decide ((t : Int) < 0) = false := by simp
                have hd3 : decide ((t : Int) ≥ (n : Int)) = false := by simp; omega
                have qr := hs3.rr t htn
                cases hrt : r' t with
                | true =>
                  rw [hrt] at qr
                  have FIN : Hid (Lf n (Ed n el tg) k u (el u) (tg u) wq (gk1 - 1) (.slice aS' st'.length cS') (.int .i64 ((j : Int) + 1)) (el u - (j + 1)) wr) := Lf.mk ⟨j + 1, r', st', _, _, by omega, by simp, rfl, hs3, (hdf3.skip hrt).dmono (D_step htj), hm3⟩
                  go_wp2
                  go_roundg (el u - (j + 1))
                  case measure => omega
                  case rel => exact FIN.out
                | false =>
                  rw [hrt] at qr
                  have qf := hs3.fr t
                  have hs4 := hs3.mark htn
                  have hun2 := unm_set htn hrt
                  obtain ⟨g, cap, w5, hrun, hown, hgr⟩ := app1 _ (wq.heap.size + 1) 39 3 39 _ 8 Yba.underlying39 info3 rfl (by decide) aS' cS' st'.length _ hs4.st (.int .i64 (t : Int)) rfl (by omega) hs4.sz
                  have hs5 := hs4.push hgr hown
                  have FIN : Hid (Lf n (Ed n el tg) k u (el u) (tg u) wq (gk1 - 1) (.slice (some ⟨g, 0, none⟩) (st'.length + 1) cap) (.int .i64 ((j : Int) + 1)) (el u - (j + 1)) w5) := Lf.mk ⟨j + 1, _, t :: st', _, _, by omega, by simp, rfl, hs5, (hdf3.mark hE htn).dmono (D_step htj), by simp; omega⟩
                  clear hs5 hown hgr hs4
                  go_upto_region 18 with fail
                  refine at_world fun W4 hW4 => ?_
                  rw [← hW4] at hrun
                  clear hW4 qr qf
                  go_wp2_with (first | (at_builtin; refine wpList_append_run rfl (.tmp 66) (.tmp 69) 39 39 rfl (.slice aS' st'.length cS') (.slice (some ⟨W4.heap.size, 0, none⟩) 1 1) (by simp [Act.eval]) (by simp [Act.eval]) _ _ hrun ?_))
                  go_roundg (el u - (j + 1))
                  case measure => omega
                  case rel => exact FIN.out
              · have FIN : Hid (Lf n (Ed n el tg) k u (el u) (tg u) wq (gk1 - 1) (.slice aS' st'.length cS') (.int .i64 ((j : Int) + 1)) (el u - (j + 1)) wr) := Lf.mk ⟨j + 1, r', st', _, _, by omega, by simp, rfl, hs3, hdf3.dmono (fun t ht => by
                  obtain ⟨h1, k', h2, h3⟩ := ht
                  by_cases e : k' = j
                  · subst e; omega
                  · exact ⟨h1, k', by omega, h3⟩), hm3⟩
                by_cases hneg : tg u j < 0
                · have hd2 : decide (tg u j < 0) = true := by simp [hneg]
                  go_wp2
                  go_roundg (el u - (j + 1))
                  case measure => omega
                  case rel => exact FIN.out
                · have hd2 : decide (tg u j < 0) = false := by simp; omega
                  have hd3 : decide (tg u j ≥ (n : Int)) = true := by simp; omega
                  go_wp2
                  go_roundg (el u - (j + 1))
                  case measure => omega
                  case rel => exact FIN.out
            · have hd1 : decide ((j : Int) < (el u : Int)) = false := by simp; omega
              have FIN : Hid (Lw n (Ed n el tg) k wq (.slice aS' st'.length cS') (gk1 - 1) wr) := Lw.mk ⟨r', st', _, _, rfl, hs3, (hdf3.dmono (fun t ht => by
                obtain ⟨_, h2, k2, h3, h4⟩ := ht
                exact ⟨h2, k2, by omega, h4⟩)).done, hm3, by omega⟩
              go_wp2
              go_roundg (gk1 - 1)
              case measure => omega
              case rel => exact FIN.out
    · have hd : decide ((k : Int) < (n : Int)) = false := by simp; omega
      obtain rfl : n = k := by omega
      go_wp2
      go_ret
      exact ⟨rfl, hq⟩
end Go.Proofs.Ybulkboyu.scc
