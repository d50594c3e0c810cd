import Derived.Test.YbulkboyuTLow
import Derived.Test.YbulkboyuVEnd
namespace Go.Proofs.Ybulkboyu.scc
open Go.ChangeShapes Go.WideShapes Go.ChangeAt Go.RowKit Go.Shelf

set_option maxRecDepth 100000 in
set_option maxHeartbeats 1000000 in
theorem visit_step (H n gn : Nat) (nd : Nat → Nat) (eb : Nat → Option Addr) (el : Nat → Nat) (tg : Nat → Nat → Int) (b : World) (hL : Lay H n gn nd eb el tg b) (m : Nat) (IH : VSpec H n nd el tg b m) : VSpec H n nd el tg b (m + 1) := by
  intro s G i W aS cS aC cC cv hm hi hw hI hG hc hT
  have hsl := hI.len
  have c11 := hT.ct
  have f11 := hT.fr (H + 11) (by omega) (by omega) 0
  have hwr : IntKind.i64.wrap ((s.cnt : Int) + 1) = ((s.cnt + 1 : Nat) : Int) := by simp [IntKind.wrap, IntKind.bits, IntKind.signed]; omega
  show Calls Yba.prog 12 #[.int .i64 (i : Int), .pointer (some ⟨H + 11, 0, none⟩), .pointer (some ⟨H + 4, 0, none⟩), .pointer (some ⟨H + 6, 0, none⟩), .pointer (some ⟨H + 9, 0, none⟩), .pointer (some ⟨H + 8, 0, none⟩), .pointer (some ⟨H, 0, none⟩), .pointer (some ⟨H + 2, 0, none⟩), .pointer (some ⟨H + 12, 0, none⟩), .pointer (some ⟨H + 10, 0, none⟩)] W _
  go_enter Yba.func12, Yba.ntmps12
  go_upto_region 1 with fail
  refine at_world fun W1 hW1 => ?_
  have t1 : Tw H n nd b (s.cnt + 1) s.idx s.low (fun j => decide (j ∈ s.st)) s.st s.cs aS cS aC cC cv W1 := by rw [hW1]; exact hT.count (s.cnt + 1)
  clear hW1 c11 f11 hwr
  have l1 := hL.of t1.same
  have c11 := t1.ct
  have c4 := l1.c4
  have c6 := l1.c6
  have c3 := t1.ix i hi
  have c5 := t1.lw i hi
  have f3 := t1.fr (H + 3) (by omega) (by omega) i
  have f5 := t1.fr (H + 5) (by omega) (by omega) i
  go_region
  clear c11 c4 c6 c3 c5 f3 f5 l1
  go_upto_region 2 with fail
  refine at_world fun W2 hW2 => ?_
  have t2 : Tw H n nd b (s.cnt + 1) (setN s.idx i (s.cnt + 1)) (setN s.low i (s.cnt + 1)) (fun j => decide (j ∈ s.st)) s.st s.cs aS cS aC cC cv W2 := by rw [hW2]; exact ((t1.index hi (s.cnt + 1)).lowset hi (s.cnt + 1)).drew
  clear hW2 t1
  have c9 := t2.sS
  obtain ⟨g, cap, w3, hrun, hown, hgr⟩ := app1 W2 (H + 13) 39 3 39 _ 8 Yba.underlying39 info3 rfl (by decide) aS cS s.st.length _ t2.rS (.int .i64 (i : Int)) rfl (by omega) t2.sz
  obtain ⟨k9, kf9, t3⟩ := t2.pushed hgr hown
  go_upto_region 3 with (first | (at_builtin; refine wpList_append_run rfl (.tmp 27) (.tmp 29) 39 39 rfl _ _ rfl rfl _ _ hrun ?_))
  refine at_world fun W3 hW3 => ?_
  rw [← hW3] at t3
  clear hW3 t2 hown hgr k9 kf9 hrun c9
  have l3 := hL.of t3.same
  have c8 := l3.c8
  have c7 := t3.on i hi
  have f7 := t3.fr (H + 7) (by omega) (by omega) i
  go_upto_region 4 with fail
  rename_i K2 hK2 K1 hK1
  have HK : Hid _ := hK2
  clear hK2
  refine at_world fun W4 hW4 => ?_
  have t4 : TW H n nd b (pushS s i) (some ⟨g, 0, none⟩) cap aC cC cv W4 := by
    rw [hW4]
    have := t3.onset hi true
    rw [on_push] at this
    exact this
  clear hW4 t3 l3 c8 c7 f7
  have l4 := hL.of t4.same
  have c0 := l4.c0
  obtain ⟨n1, n2, n3, n4⟩ := l4.nd i hi
  obtain ⟨ebi, hebi⟩ : ∃ x, Hid (x = eb i) := ⟨_, rfl⟩
  rw [← hebi.out] at n3
  go_wp2
  have hst : L1 H n nd el tg b G s i (.int .i64 0) (el i) W4 :=
    ⟨0, pushS s i, _, _, _, _, _, by omega, rfl, t4, (Mid.start hI hi hw hG).dmono (fun t ht => by obtain ⟨_, k', h, _⟩ := ht; omega), by have := wset hi hw (x := s.cnt + 1) (by omega); show s.cnt + 1 + white n (setN s.idx i (s.cnt + 1)) = _; omega⟩
  go_loopg [42] (el i) (fun g v wr => L1 H n nd el tg b G s i v g wr)
  case atStart => exact hst
  clear hst t4 l4 c0 n1 n2 n3
  case round =>
    obtain ⟨k, s', aS', cS', aC', cC', cv', hk, rfl, t5, mid, hwc⟩ := hrel.ex
    clear hrel
    by_cases hlt : k < el i
    · have hd : decide ((k : Int) < (el i : Int)) = true := by simp; omega
      have l5 := hL.of t5.same
      obtain ⟨⟨ge, he, hge, e0, e1, e2⟩, hwf⟩ := l5.tg i hi k hlt
      rw [← hebi.out] at he
      clear hebi
      subst he
      go_upto_region 7 with fail
      refine at_world fun W5 hW5 => ?_
      have hb5 : Below wr.heap.size wr W5 := by rw [hW5]; exact (Below.refl _ _).alloc (Nat.le_refl _) _
      have x0 : W5.cell? ⟨wr.heap.size, 0, none⟩ = some (.int .i32 (tg i k)) := by rw [hW5, World.cell?_alloc_at _ _ _ _ rfl]; rfl
      clear hW5 e0 e1 e2 l5
      have t6 := t5.below hb5
      clear t5 hb5
      have l6 := hL.of t6.same
      have c2 := l6.c2
      have HL := l6.mp.look hwf
      have c4 := l6.c4
      have c6 := l6.c6
      have c8 := l6.c8
      have c12 := l6.c12
      by_cases hr : 0 ≤ tg i k ∧ tg i k < (n : Int)
      · obtain ⟨j, hj⟩ : ∃ j : Nat, tg i k = (j : Int) := ⟨(tg i k).toNat, by omega⟩
        have hjn : j < n := by omega
        have hE : Ed n el tg i j := ⟨hi, hjn, k, hlt, hj⟩
        rw [if_pos hr, decide_eq_true hr] at HL
        rw [hj] at HL x0
        have q3 := t6.ix j hjn
        by_cases hv : s'.idx j = 0
        · have hv' : ((s'.idx j : Nat) : Int) = 0 := by omega
          rw [hv'] at q3
          have hwm : white n s'.idx ≤ m := by
            have h1 := wset hi hw (x := s.cnt + 1) (by omega)
            have h2 : white n s'.idx ≤ white n (setN s.idx i (s.cnt + 1)) := wmono fun v hv => by
              by_cases e : v = i
              · rw [e, mid.idx]; omega
              · rw [setN_ne _ _ e] at hv; exact mid.ext.vis hv
            omega
          have hcall := IH s' (i :: G) j W5 aS' cS' aC' cC' cv' hwm hjn hv mid.inv (fun x hx => (mid.reach hI x hx).step hE) (by omega) t6
          go_upto_region 11 with (first | (go_at_call 12; refine hcall.mono ?_; rintro e w6 ⟨rfl, s2, aS2, cS2, aC2, cC2, cv2, t7, hp, hwc2⟩))
          clear hcall t6 l6 c2 HL c4 c6 c8 c12 q3 x0
          have l7 := hL.of t7.same
          have c6 := l7.c6
          have q5 := t7.lw i hi
          have q6 := t7.lw j hjn
          have f5 := t7.fr (H + 5) (by omega) (by omega) i
          refine low11 H n i j (s2.low i) (s2.low j) w6 hi hjn _ c6 q5 q6 f5 _ _ _ _ _ _ _ _ _ _ _ _ _ _ _ _ _ _ _ _ _ _ _ _ _ _ _ _ _ _ _ _ _ _ _ _ _ _ _ _ _ _ _ _ _ _ _ _ _ _ _ _ _ _ _ _ _ _ _ _ _ _ _ _ _ _ _ _ _ _ _ _ _ _ _ _ _ _ _ _ _ _ _ _ _ _ _ _ _ _ _ _ _ _ _ _ _ _ _ _ _ _ _ _ _ _ _ _ _ _ _ _ _ _ _ _ _ _ _ _ _ _ _ _ _ _ _ _ (fun y65 y66 y67 y68 y69 y70 y71 y72 y73 y74 y75 y76 => ?_)
          clear c6 q5 q6 f5 l7
          go_upto_region 14 with fail
          refine at_world fun W8 hW8 => ?_
          have t8 : TW H n nd b { s2 with low := setN s2.low i (min (s2.low i) (s2.low j)) } aS2 cS2 aC2 cC2 cv2 W8 := by
            rw [hW8]; exact (t7.lowset hi _).drew
          clear hW8
          have FIN : Hid (L1 H n nd el tg b G s i (.int .i64 ((k : Int) + 1)) (el i - (k + 1)) W8) := L1.mk ⟨k + 1, _, _, _, _, _, _, by omega, by simp, t8, (mid.child hw hE hv hp).dmono (D_step hj), by show s2.cnt + white n s2.idx = _; omega⟩
          clear t8
          go_wp2
          go_roundg (el i - (k + 1))
          case measure => omega
          case rel => exact FIN.out
        · have hv' : decide (((s'.idx j : Nat) : Int) = 0) = false := by simp [hv]
          have q7 := t6.on j hjn
          by_cases hs : j ∈ s'.st
          · rw [decide_eq_true hs] at q7
            have q5 := t6.lw i hi
            have f5 := t6.fr (H + 5) (by omega) (by omega) i
            go_upto_region 13 with fail
            refine low13 H n i j (s'.low i) (s'.idx j) W5 hi hjn _ c4 c6 q5 q3 f5 _ _ _ _ _ _ _ _ _ _ _ _ _ _ _ _ _ _ _ _ _ _ _ _ _ _ _ _ _ _ _ _ _ _ _ _ _ _ _ _ _ _ _ _ _ _ _ _ _ _ _ _ _ _ _ _ _ _ _ _ _ _ _ _ _ _ _ _ _ _ _ _ _ _ _ _ _ _ _ _ _ _ _ _ _ _ _ _ _ _ _ _ _ _ _ _ _ _ _ _ _ _ _ _ _ _ _ _ _ _ _ _ _ _ _ _ _ _ _ _ _ _ _ _ _ _ _ _ (fun y82 y83 y84 y85 y86 y87 y88 y89 y90 y91 y92 y93 => ?_)
            clear c2 HL c4 c6 c8 c12 q3 x0 q5 f5 q7 l6
            go_upto_region 14 with fail
            refine at_world fun W8 hW8 => ?_
            have t8 : TW H n nd b { s' with low := setN s'.low i (min (s'.low i) (s'.idx j)) } aS' cS' aC' cC' cv' W8 := by
              rw [hW8]; exact (t6.lowset hi _).drew
            clear hW8
            have FIN : Hid (L1 H n nd el tg b G s i (.int .i64 ((k : Int) + 1)) (el i - (k + 1)) W8) := L1.mk ⟨k + 1, _, _, _, _, _, _, by omega, by simp, t8, (mid.onst hw hE hs).dmono (D_step hj), hwc⟩
            clear t8
            go_wp2
            go_roundg (el i - (k + 1))
            case measure => omega
            case rel => exact FIN.out
          · rw [decide_eq_false hs] at q7
            go_wp2
            go_roundg (el i - (k + 1))
            case measure => omega
            case rel => exact ⟨k + 1, _, _, _, _, _, _, by omega, by go_num, t6, (mid.seen hv hs).dmono (D_step hj), hwc⟩
      · rw [if_neg hr, decide_eq_false hr] at HL
        go_wp2
        go_roundg (el i - (k + 1))
        case measure => omega
        case rel => exact ⟨k + 1, s', aS', cS', aC', cC', cv', by omega, by go_num, t6, mid.dmono (fun t ht => by
          obtain ⟨h1, k', h2, h3⟩ := ht
          by_cases e : k' = k
          · subst e; omega
          · exact ⟨h1, k', by omega, h3⟩), hwc⟩
    · have hd : decide ((k : Int) < (el i : Int)) = false := by simp; omega
      go_wp2
      refine HK.out _ _ ?_
      exact visit_end H n gn nd eb el tg b hL s s' G i hi wr aS' cS' aC' cC' cv' (mid.dmono fun t ht => by
        obtain ⟨_, h2, k2, h3, h4⟩ := ht
        exact ⟨h2, k2, by omega, h4⟩) hI hw t5 hwc hc _ _ _ _ _ _ _ _ _ _ _ _ _ _ _ _ _ _ _ _ _ _ _ _ _ _ _ _ _ _ _ _ _ _ _ _ _ _ _ _ _ _ _ _ _ _ _ _ _ _ _ _ _ _ _ _ _ _ _ _ _ _ _ _ _ _ _ _ _ _ _ _ _ _ _ _ _ _ _ _ _ _ _ _ _ _ _ _ _ _ _ _ _ _ _ _ _ _ _ _ _ _ _ _ _ _ _ _ _ _ _ _ _ _ _ _ _ _ _ _ _ _
end Go.Proofs.Ybulkboyu.scc
