import Derived.Test.YbulkbpayEnd
namespace Go.Proofs.Ybulkbpay.un
open Go.ChangeShapes Go.WideShapes Go.ChangeAt Go.RowKit Go.Shelf
attribute [local go_sem] Oper.semAt_some

structure Pre (w : World) (N go co k nb cb : Nat) (ab : Option Addr) (l : ByteArray) (mark : Nat) (fs : Nat → BE) (sc : Nat → Int) : Prop where
  size : N + 3 ≤ w.heap.size
  hgo : N + 3 ≤ go ∧ go < w.heap.size
  hco : k + 1 ≤ co ∧ co ≤ maxLen ∧ k ≤ 2000
  hnb : mark ≤ nb ∧ nb ≤ cb ∧ cb ≤ maxLen ∧ nb ≤ 2000
  c5 : ∃ b, w.cell? ⟨N + 2, 5, none⟩ = some (.bool b)
  c6 : w.cell? ⟨N + 2, 6, none⟩ = some (.slice (some ⟨go, 0, none⟩) (k + 1) co)
  c7 : w.cell? ⟨N + 2, 7, none⟩ = some (.slice ab nb cb)
  c8 : w.cell? ⟨N + 2, 8, none⟩ = some (.map (some N))
  fr : ∀ o, w.frozen? ⟨N + 2, o, none⟩ = false
  t0 : w.cell? ⟨go, k * 4, none⟩ = some (.string l)
  t1 : w.cell? ⟨go, k * 4 + 1, none⟩ = some (.string ⟨#[110]⟩)
  t2 : w.cell? ⟨go, k * 4 + 2, none⟩ = some (.string l)
  t3 : w.cell? ⟨go, k * 4 + 3, none⟩ = some (.int .i64 (mark : Int))
  hab : (ab = none ∧ nb = 0 ∧ cb = 0) ∨ ∃ g, ab = some ⟨g, 0, none⟩ ∧ N + 3 ≤ g ∧ g < w.heap.size ∧ ∀ j, j < nb → w.cell? ⟨g, j * 3, none⟩ = some (.string (pf (fs j).p)) ∧ w.cell? ⟨g, j * 3 + 1, none⟩ = some (.string (fs j).sp) ∧ w.cell? ⟨g, j * 3 + 2, none⟩ = some (.int .i64 (fs j).sh)
  hf : ∀ j, (fs j).p < 3 ∧ -1 ≤ (fs j).sh ∧ (fs j).sh < 5000
  mp : Mp w N sc

structure Post (w w' : World) (N go co k cb mark : Nat) (ab : Option Addr) (sc' : Nat → Int) : Prop where
  os : w'.os = w.os
  tape : w'.tape = w.tape
  output : w'.output = w.output
  size : w.heap.size ≤ w'.heap.size
  block : ∀ j, j < w.heap.size → j ≠ N → j ≠ N + 2 → w'.heap[j]? = w.heap[j]?
  c5 : w'.cell? ⟨N + 2, 5, none⟩ = some (.bool (decide ((k : Int) = 0)))
  c6 : w'.cell? ⟨N + 2, 6, none⟩ = some (.slice (some ⟨go, 0, none⟩) k co)
  c7 : w'.cell? ⟨N + 2, 7, none⟩ = some (.slice ab mark cb)
  c8 : w'.cell? ⟨N + 2, 8, none⟩ = some (.map (some N))
  fr : ∀ o, w'.frozen? ⟨N + 2, o, none⟩ = false
  mp : Mp w' N sc'

theorem al {W : World} {a : Addr} {v : Value} (h : W.cell? a = some v) (o : Obj) : (W.alloc o).cell? a = some v := by
  rw [((Below.refl W.heap.size W).alloc (Nat.le_refl _) o).cell (World.block_lt_of_cell? _ _ h)]; exact h

set_option maxRecDepth 100000 in
set_option maxHeartbeats 600000 in
theorem close_any (w : World) (N go co k nb cb : Nat) (ab : Option Addr) (l : ByteArray) (mark : Nat) (fs : Nat → BE) (sc : Nat → Int) (off : Int) (h : Pre w N go co k nb cb ab l mark fs sc) :
    Calls Yba.prog 8 #[.pointer (some ⟨N + 2, 0, none⟩), .int .i64 off] w fun e w' => e = .returned (.agg #[.int .i64 2, .string ⟨#[110]⟩, .string l, .slice none 0 0, .slice none 0 0, .int .i64 off]) ∧ Post w w' N go co k cb mark ab (unwound sc (upto (fun i => item (fun j => fs (mark + j)) (fun j => h.hf (mark + j)) (nb - mark - 1 - i)) (nb - mark))) := by
  have hsz := h.size
  obtain ⟨g1, g2⟩ := h.hgo
  obtain ⟨k1, k2, k3⟩ := h.hco
  obtain ⟨m1, m2, m3, m4⟩ := h.hnb
  refine callsIn_wide.1 (callsIn_of_wp_marks (n := 3) Yba.func8 rfl trivial (wpIn_wide.2 ?_) rfl)
  simp only [Yba.ntmps8, List.size_toArray, List.length_cons, List.length_nil, Nat.reduceAdd, Nat.reduceSub, Array.replicate_succ, Array.replicate_zero, List.push_toArray, List.append_toArray, List.nil_append, List.cons_append]
  go_upto_region 1 with fail
  refine at_world fun W1 hW1 => ?_
  have e1 : W1.heap.size = w.heap.size + 2 := by rw [hW1]; simp
  have K1 : ∀ a v, w.cell? a = some v → W1.cell? a = some v := fun a v h => by rw [hW1]; exact al (al h _) _
  have b0 : W1.cell? ⟨w.heap.size, 0, none⟩ = some (.pointer (some ⟨N + 2, 0, none⟩)) := by rw [hW1, World.cell?_alloc_past _ _ _ (by simp), World.cell?_alloc_at _ _ _ _ rfl]; rfl
  have B1 : Hid (Below w.heap.size w W1) := by rw [hW1]; exact ((Below.refl _ w).alloc (Nat.le_refl _) _).alloc (by simp) _
  have R1 : Hid (W1.heap[w.heap.size + 1]? = some (.cells #[.int .i64 0, .string ⟨#[]⟩, .string ⟨#[]⟩, .slice none 0 0, .slice none 0 0, .int .i64 0] 45 (0, 0))) := by
    show W1.heap[w.heap.size + 1]? = _
    rw [hW1]; have := World.alloc_heap_new (w.alloc (.cells #[.pointer (some ⟨N + 2, 0, none⟩)] 23)) (.cells #[.int .i64 0, .string ⟨#[]⟩, .string ⟨#[]⟩, .slice none 0 0, .slice none 0 0, .int .i64 0] 45); simpa using this
  clear hW1
  have q6 := K1 _ _ h.c6
  have t0 := K1 _ _ h.t0
  have t1 := K1 _ _ h.t1
  have t2 := K1 _ _ h.t2
  have t3 := K1 _ _ h.t3
  have b0h : Hid _ := b0
  have b0' := fun o => al b0 o
  have q6' := fun o => al q6 o
  have t0' := fun o => al t0 o
  have t1' := fun o => al t1 o
  have t2' := fun o => al t2 o
  have t3' := fun o => al t3 o
  have K1' : Hid _ := K1
  clear K1
  go_region
  clear q6 t0 t1 t2 t3 q6' t0' t1' t2' t3' b0 b0'
  go_upto_region 2 with fail
  refine at_world fun W2 hW2 => ?_
  have e2 : W2.heap.size = w.heap.size + 3 := by rw [hW2]; simp [e1]
  have K2 : ∀ a v, W1.cell? a = some v → W2.cell? a = some v := fun a v h => by rw [hW2]; exact al h _
  have B2 : Hid (Below w.heap.size w W2) := by show Below w.heap.size w W2; rw [hW2]; exact (B1.out.alloc (by omega) _).drew
  have R2 : Hid (W2.heap[w.heap.size + 1]? = some (.cells #[.int .i64 0, .string ⟨#[]⟩, .string ⟨#[]⟩, .slice none 0 0, .slice none 0 0, .int .i64 0] 45 (0, 0))) := by
    show W2.heap[w.heap.size + 1]? = _
    rw [hW2]; exact (Below.heap_alloc _ _ _ (by omega)).trans R1.out
  have T2 : Hid (W2.heap[w.heap.size + 2]? = some (.cells #[.string l, .string ⟨#[110]⟩, .string l, .int .i64 (mark : Int)] 42 (0, 0))) := by
    show W2.heap[w.heap.size + 2]? = _
    rw [hW2, ← e1]; exact World.alloc_heap_new W1 _
  clear hW2
  have b2 := K2 _ _ b0h.out
  have b2h : Hid _ := b2
  have q6 := K2 _ _ (K1'.out _ _ h.c6)
  have f6 : W2.frozen? ⟨N + 2, 6, none⟩ = false := by rw [B2.out.frozen (p := ⟨N + 2, 6, none⟩) (by show N + 2 < _; omega)]; exact h.fr 6
  clear K2
  have s1 : (k : Int) ≤ (co : Int) := by omega
  have s2 : k ≤ co := by omega
  have hwk : IntKind.i64.wrap (k : Int) = (k : Int) := by simp [IntKind.wrap, IntKind.bits, IntKind.signed]; omega
  go_still_tail 12, (by kernel_rfl)
  go_upto_region 3 with fail
  clear q6 f6 b2 hwk
  refine at_world fun W3 hW3 => ?_
  have e3 : W3.heap.size = w.heap.size + 3 := by rw [hW3]; simp [e2]
  have K3 : ∀ (a : Addr) v, a ≠ ⟨N + 2, 6, none⟩ → W2.cell? a = some v → W3.cell? a = some v := fun a v hn h => by
    rw [hW3]; exact (World.cell?_setCell_other _ _ _ _ (fun e => hn e.symm)).trans h
  have B3 : Hid (Kept w.heap.size (N + 2) w W3) := by
    show Kept w.heap.size (N + 2) w W3
    refine (kept_of_below B2.out).trans ?_
    rw [hW3]
    exact ⟨rfl, rfl, rfl, Nat.le_of_eq (World.size_setCell W2 ⟨N + 2, 6, none⟩ _).symm, fun b _ hb => Below.heap_setCell _ _ _ _ (by show b ≠ N + 2; omega)⟩
  have R3 : Hid (W3.heap[w.heap.size + 1]? = some (.cells #[.int .i64 0, .string ⟨#[]⟩, .string ⟨#[]⟩, .slice none 0 0, .slice none 0 0, .int .i64 0] 45 (0, 0))) := by
    show W3.heap[w.heap.size + 1]? = _
    rw [hW3]; exact (Below.heap_setCell _ _ _ _ (by show w.heap.size + 1 ≠ N + 2; omega)).trans R2.out
  have T3 : Hid (W3.heap[w.heap.size + 2]? = some (.cells #[.string l, .string ⟨#[110]⟩, .string l, .int .i64 (mark : Int)] 42 (0, 0))) := by
    show W3.heap[w.heap.size + 2]? = _
    rw [hW3]; exact (Below.heap_setCell _ _ _ _ (by show w.heap.size + 2 ≠ N + 2; omega)).trans T2.out
  have c63 : Hid (W3.cell? ⟨N + 2, 6, none⟩ = some (.slice (some ⟨go, 0, none⟩) k co)) := by
    show W3.cell? ⟨N + 2, 6, none⟩ = _
    rw [hW3]; exact World.cell?_setCell_same _ _ _ ((B2.out.cell (p := ⟨N + 2, 6, none⟩) (by show N + 2 < _; omega)).trans h.c6)
  have F3 : Hid (∀ o, W3.frozen? ⟨N + 2, o, none⟩ = false) := fun o => by
    rw [hW3, World.frozen?_drew, World.frozen?_setCell, B2.out.frozen (p := ⟨N + 2, o, none⟩) (by show N + 2 < _; omega)]; exact h.fr o
  have K3w : ∀ o v, o ≠ 6 → w.cell? ⟨N + 2, o, none⟩ = some v → W3.cell? ⟨N + 2, o, none⟩ = some v := fun o v ho hv =>
    K3 _ _ (fun e => ho (by cases e; rfl)) ((B2.out.cell (p := ⟨N + 2, o, none⟩) (by show N + 2 < _; omega)).trans hv)
  have b3 : W3.cell? ⟨w.heap.size, 0, none⟩ = some (.pointer (some ⟨N + 2, 0, none⟩)) := K3 _ _ (fun e => by have := congrArg Addr.block e; simp at this; omega) b2h.out
  have b3h : Hid _ := b3
  have c73 := K3w 7 _ (by decide) h.c7
  have c83 : Hid _ := K3w 8 _ (by decide) h.c8
  have c53 : Hid (∃ b, W3.cell? ⟨N + 2, 5, none⟩ = some (.bool b)) := by obtain ⟨b, hb⟩ := h.c5; exact ⟨b, K3w 5 _ (by decide) hb⟩
  have m43 : W3.cell? ⟨w.heap.size + 2, 3, none⟩ = some (.int .i64 (mark : Int)) := by
    have := T3.out
    simp [World.cell?, this]
  clear K3 K3w hW3
  have KG : Hid (∀ g, N + 3 ≤ g → g < w.heap.size → ∀ o, W3.cell? ⟨g, o, none⟩ = w.cell? ⟨g, o, none⟩) := fun g h1 h2 o => B3.out.cell (p := ⟨g, o, none⟩) h2 (by show g ≠ N + 2; omega)
  go_cut [41] from 34 to 41 (fun v wx => ∃ ao' cap', v = .func (.func 11) #[] #[.pointer (some ⟨w.heap.size + 3, 0, none⟩)] ∧ wx = (W3.alloc (.cells #[.slice ao' (nb - mark) cap'] 32)).drew ∧ BRow w.heap.size N W3 ao' (nb - mark) (fun j => fs (mark + j)))
  case first =>
    rcases h.hab with ⟨hab0, hn0, hc0⟩ | ⟨g, hab0, hg1, hg2, hrow⟩
    · have HN : Hid (nb - mark = 0) := by show nb - mark = 0; omega
      clear hn0 hc0
      subst hab0
      go_still_tail 7, (by kernel_rfl)
      all_goals (go_wp2_with (go_at_call 10; refine (callsIn_wide.1 (back_in 3 _ _ _ _)).mono ?_; rintro e w' ⟨rfl, rfl⟩); go_meet; exact ⟨_, _, rfl, rfl, fun j hj => absurd hj (by have := HN.out; omega)⟩)
    · subst hab0
      have HR : Hid (∀ j, j < nb → W3.cell? ⟨g, j * 3, none⟩ = some (.string (pf (fs j).p)) ∧ W3.cell? ⟨g, j * 3 + 1, none⟩ = some (.string (fs j).sp) ∧ W3.cell? ⟨g, j * 3 + 2, none⟩ = some (.int .i64 (fs j).sh)) := fun j hj => by
        obtain ⟨r0, r1, r2⟩ := hrow j hj
        exact ⟨(KG.out g hg1 hg2 _).trans r0, (KG.out g hg1 hg2 _).trans r1, (KG.out g hg1 hg2 _).trans r2⟩
      clear hrow
      by_cases hcm : cb = mark
      · subst hcm
        go_still_tail 7, (by kernel_rfl)
        all_goals (go_wp2_with (go_at_call 10; refine (callsIn_wide.1 (back_in 3 _ _ _ _)).mono ?_; rintro e w' ⟨rfl, rfl⟩); go_meet; exact ⟨_, _, rfl, by rw [show nb - cb = 0 by omega], fun j hj => absurd hj (by omega)⟩)
      · go_still_tail 7, (by kernel_rfl)
        all_goals (go_wp2_with (go_at_call 10; refine (callsIn_wide.1 (back_in 3 _ _ _ _)).mono ?_; rintro e w' ⟨rfl, rfl⟩); go_meet; exact ⟨_, _, rfl, rfl, fun j hj => ⟨g, mark * 3, rfl, hg2, by omega, by have := HR.out (mark + j) (by omega); rw [Nat.add_mul] at this; exact this⟩⟩)
  case rest =>
    obtain ⟨ao', cap', hu, hwc, hbr⟩ := hcut
    subst hu
    rename_i K1 hK1 K2 hK2
    have HK1 : Hid _ := hK1
    clear hK1
    have ez : wc.heap.size = w.heap.size + 4 := by rw [hwc]; simp [e3]
    have Kc : ∀ a v, W3.cell? a = some v → wc.cell? a = some v := fun a v hv => by rw [hwc]; exact al hv _
    have Kb : ∀ j, j < w.heap.size + 3 → wc.heap[j]? = W3.heap[j]? := fun j hj => by rw [hwc]; exact Below.heap_alloc _ _ _ (by omega)
    have hbs : wc.cell? ⟨w.heap.size + 3, 0, none⟩ = some (.slice ao' (nb - mark) cap') := by
      have hn := World.alloc_heap_new W3 (.cells #[.slice ao' (nb - mark) cap'] 32)
      rw [e3] at hn
      have hn' : (W3.alloc (.cells #[.slice ao' (nb - mark) cap'] 32)).drew.heap[w.heap.size + 3]? = _ := hn
      rw [hwc]; simp only [World.cell?, hn']; rfl
    have eo : wc.os = W3.os ∧ wc.tape = W3.tape ∧ wc.output = W3.output := by rw [hwc]; exact ⟨rfl, rfl, rfl⟩
    clear hwc
    refine hK2 _ _ ?_
    refine close_loop wc N w.heap.size (w.heap.size + 3) (nb - mark) cap' ao' (fun j => fs (mark + j)) (fun j => h.hf (mark + j)) sc (by omega) (by omega) (by omega) (by omega) (Kc _ _ b3h.out) (Kc _ _ c83.out) hbs ?_ ?_ K1 _ _ _ _ _ _ _ _ _ _ _ _ _ _ _ _ _ _ _ _ _ _ _ _ _ _ _ _ _ _ _ _ _ _ _ _ _ _ _ _ _ _ _ _ _ _ _ _ _ _ _ _ _ _ _ _ _ _ _ _ _ _ _ _ _ _ _ _ _ _ _ _ _ _ _ _ _ _ _ _ _ _ _ ?_
    · intro j hj
      obtain ⟨g, o, x1, x2, x3, x4, x5, x6⟩ := hbr j hj
      exact ⟨g, o, x1, by omega, x3, Kc _ _ x4, Kc _ _ x5, Kc _ _ x6⟩
    · exact h.mp.block ((Kb N (by omega)).trans (B3.out.block N (by omega) (by omega)))
    · intro D W hD hkept hmp hdf
      obtain ⟨b, hb⟩ := c53.out
      have kc : ∀ (a : Addr) v, a.block < w.heap.size + 4 → a.block ≠ N → W3.cell? a = some v → W.cell? a = some v := fun a v h1 h2 h3 => (hkept.cell (p := a) (by omega) h2).trans (Kc _ _ h3)
      have T3c : ∀ o v, (#[.string l, .string ⟨#[110]⟩, .string l, .int .i64 (mark : Int)] : Array Value)[o]? = some v → W3.cell? ⟨w.heap.size + 2, o, none⟩ = some v := fun o v hv => by
        have := T3.out
        simp [World.cell?, this]
        simpa using hv
      have RW : W.heap[w.heap.size + 1]? = W3.heap[w.heap.size + 1]? := (hkept.block _ (by omega) (by omega)).trans (Kb _ (by omega))
      have FW : ∀ o, W.frozen? ⟨N + 2, o, none⟩ = false := fun o => by
        have e : W.heap[N + 2]? = W3.heap[N + 2]? := (hkept.block _ (by omega) (by omega)).trans (Kb _ (by omega))
        rw [← F3.out o]; simp only [World.frozen?, e]
      refine HK1.out _ _ ?_
      refine close_end W N w.heap.size (w.heap.size + 1) (w.heap.size + 2) D go co k nb cb mark ab l off b (by rcases h.hab with hq | ⟨g, x, _⟩; exact .inl hq; exact .inr ⟨g, x⟩) h.hnb (by omega) (by omega) (by omega) (by omega)
        (kc _ _ (by show w.heap.size < _; omega) (by show w.heap.size ≠ _; omega) b3h.out) (kc _ _ (by show w.heap.size + 2 < _; omega) (by show w.heap.size + 2 ≠ _; omega) (T3c 1 _ rfl)) (kc _ _ (by show w.heap.size + 2 < _; omega) (by show w.heap.size + 2 ≠ _; omega) (T3c 2 _ rfl)) (kc _ _ (by show w.heap.size + 2 < _; omega) (by show w.heap.size + 2 ≠ _; omega) (T3c 3 _ rfl))
        (kc _ _ (by show N + 2 < _; omega) (by show N + 2 ≠ _; omega) hb) (kc _ _ (by show N + 2 < _; omega) (by show N + 2 ≠ _; omega) c63.out) (kc _ _ (by show N + 2 < _; omega) (by show N + 2 ≠ _; omega) c73) FW (RW.trans R3.out) hdf _ ?_ _ _ _ _ _ _ _ _ _ _ _ _ _ _ _ _ _ _ _ _ _ _ _ _ _ _ _ _ _ _ _ _ _ _ _ _ _ _ _ _ _ _ _ _ _ _ _ _ _ _ _ _ _ _ _ _ _ _ _ _ _ _ _ _ _ _ _ _ _ _ _ _ _ _ _ _ _ _ _ _
      intro W' h1 h2 h3 h4 h5 h6 h7 h8 h9
      have hB := B3.out
      refine ⟨rfl, h1.trans (hkept.os.trans (eo.1.trans hB.os)), h2.trans (hkept.tape.trans (eo.2.1.trans hB.tape)), h3.trans (hkept.output.trans (eo.2.2.trans hB.output)), ?_, ?_, h7, ?_, h8, ?_, h9, ?_⟩
      · have := hkept.size; omega
      · intro j j1 j2 j3
        exact (h5 j j3 (by omega) (by omega)).trans ((hkept.block j (by omega) j2).trans ((Kb j (by omega)).trans (hB.block j j1 j3)))
      · exact (h6 6 (by decide) (by decide)).trans (kc _ _ (by show N + 2 < _; omega) (by show N + 2 ≠ _; omega) c63.out)
      · exact (h6 8 (by decide) (by decide)).trans (kc _ _ (by show N + 2 < _; omega) (by show N + 2 ≠ _; omega) c83.out)
      · exact hmp.block (h5 N (by omega) (by omega) (by omega))
end Go.Proofs.Ybulkbpay.un
