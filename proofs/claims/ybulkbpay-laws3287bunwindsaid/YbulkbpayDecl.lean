import Derived.Test.YbulkbpayPush
namespace Go.Proofs.Ybulkbpay.un
open Go.ChangeShapes Go.WideShapes Go.ChangeAt Go.RowKit

/-- the map has turned -/
theorem St.mapped {N : Nat} {w w' : World} {ao ab aS : Option Addr} {co cb cs : Nat} {os : List OE} {bs : List BE} {ss : List (Nat → Int)} {sc sc' : Nat → Int} (h : St N w ao ab aS co cb cs os bs ss sc)
    (ht : w.mapTurned w' N) (hm : Mp w' N sc') : St N w' ao ab aS co cb cs os bs ss sc' ∧ Below N w w' := by
  have hg := ht.grown
  have hsz := h.size
  have hbk : ∀ i, i < w.heap.size → i ≠ N → w'.heap[i]? = w.heap[i]? := fun i hi hne => hg.block i hi (fun e => hne (by cases e; rfl))
  have hc : ∀ o, w'.cell? ⟨N + 2, o, none⟩ = w.cell? ⟨N + 2, o, none⟩ := fun o => World.cell?_of_block (a := ⟨N + 2, o, none⟩) (hbk (N + 2) (by omega) (by omega))
  have key : ∀ {e size n : Nat} {v : Value} {xs : List Value}, w.ownsRow (N + 3) e size v n xs → w'.ownsRow (N + 3) e size v n xs := fun hh =>
    hh.kept hg (by
      rcases nb (Value.ownBlock _) with e | e
      · exact .inl e
      · exact .inr (fun e' => by have := (hh.lt N e').1; omega))
  refine ⟨⟨Nat.le_trans hsz hg.size, ?_, ?_, ?_, ?_, fun o => ?_, key h.ro, key h.rb, key h.rs, hm⟩, ⟨hg.os, hg.tape, hg.output, hg.size, fun k hk => hbk k (by omega) (by omega)⟩⟩
  · rw [hc]; exact h.c5
  · rw [hc]; exact h.c6
  · rw [hc]; exact h.c7
  · rw [hc]; exact h.c8
  · rw [World.frozen?_of_block (a := ⟨N + 2, o, none⟩) (hbk (N + 2) (by omega) (by omega))]; exact h.fr o

/-- the bindings, one longer, and stored -/
theorem St.bound {N : Nat} {w w' : World} {ao ab aS : Option Addr} {co cb cs : Nat} {os : List OE} {bs : List BE} {ss : List (Nat → Int)} {sc : Nat → Int} (h : St N w ao ab aS co cb cs os bs ss sc) {g cap : Nat} (x : BE)
    (hg : w.grownBy w' (Value.slice ab bs.length cb).ownBlock) (hr : w'.ownsRow (N + 3) 54 3 (.slice (some ⟨g, 0, none⟩) (bs.length + 1) cap) (bs.length + 1) (bs.flatMap bc ++ bc x)) :
    w'.cell? ⟨N + 2, 7, none⟩ = some (.slice ab bs.length cb) ∧ w'.frozen? ⟨N + 2, 7, none⟩ = false ∧
    St N (w'.setCell ⟨N + 2, 7, none⟩ (.slice (some ⟨g, 0, none⟩) (bs.length + 1) cap)) ao (some ⟨g, 0, none⟩) aS co cap cs os (bs ++ [x]) ss sc ∧ Below N w (w'.setCell ⟨N + 2, 7, none⟩ (.slice (some ⟨g, 0, none⟩) (bs.length + 1) cap)) := by
  have hsz := h.size
  have hne : ∀ i, i < N + 3 → some i ≠ (Value.slice ab bs.length cb).ownBlock := fun i hi e => by have := (h.rb.lt i e.symm).1; omega
  have hbk : ∀ i, i < N + 3 → w'.heap[i]? = w.heap[i]? := fun i hi => hg.block i (by omega) (hne i hi)
  have hc : ∀ o, w'.cell? ⟨N + 2, o, none⟩ = w.cell? ⟨N + 2, o, none⟩ := fun o => World.cell?_of_block (a := ⟨N + 2, o, none⟩) (hbk (N + 2) (by omega))
  have hf : ∀ o, w'.frozen? ⟨N + 2, o, none⟩ = false := fun o => by rw [World.frozen?_of_block (a := ⟨N + 2, o, none⟩) (hbk (N + 2) (by omega))]; exact h.fr o
  have ot : ∀ (o : Nat) v, 7 ≠ o → (w'.setCell ⟨N + 2, 7, none⟩ v).cell? ⟨N + 2, o, none⟩ = w'.cell? ⟨N + 2, o, none⟩ := fun o v hne =>
    World.cell?_setCell_other _ _ _ _ (by intro e; cases e; exact hne rfl)
  have hb1 : Below N w w' := ⟨hg.os, hg.tape, hg.output, hg.size, fun k hk => hbk k (by omega)⟩
  have key : ∀ {e size n : Nat} {v : Value} {xs : List Value}, w'.ownsRow (N + 3) e size v n xs → ∀ u, (w'.setCell ⟨N + 2, 7, none⟩ u).ownsRow (N + 3) e size v n xs := fun hh u => ownsRow_setCell_below hh (by show N + 2 < N + 3; omega) u
  refine ⟨(hc 7).trans h.c7, hf 7, ⟨?_, ?_, ?_, ?_, ?_, fun o => ?_, key (h.ro.kept hg (apart h.ro h.rb (by decide))) _, ?_, key (h.rs.kept hg (apart h.rs h.rb (by decide))) _, ?_⟩, hb1.setCell (by show N ≤ N + 2; omega) _⟩
  · rw [World.size_setCell]; exact Nat.le_trans hsz hg.size
  · rw [ot 5 _ (by decide), hc]; exact h.c5
  · rw [ot 6 _ (by decide), hc]; exact h.c6
  · rw [World.cell?_setCell_same _ _ _ ((hc 7).trans h.c7)]; simp
  · rw [ot 8 _ (by decide), hc]; exact h.c8
  · rw [World.frozen?_setCell]; exact hf o
  · simpa using key hr _
  · exact (h.mp.block (hbk N (by omega))).block (Below.heap_setCell _ _ _ _ (by show N ≠ N + 2; omega))

set_option maxHeartbeats 4000000 in
theorem decl_any (N : Nat) (w : World) (ao ab aS : Option Addr) (co cb cs : Nat) (os : List OE) (bs : List BE) (ss : List (Nat → Int)) (sc : Nat → Int) (h : St N w ao ab aS co cb cs os bs ss sc) (hb : bs.length ≤ 1100) (p : Nat) (hp : p < 3) (sp : ByteArray) :
    Calls Yba.prog 6 #[.pointer (some ⟨N + 2, 0, none⟩), .string (pf p), .string sp] w fun e w' => e = .returned (.tuple #[]) ∧ ∃ ab' cb', St N w' ao ab' aS co cb' cs os (bs ++ [⟨p, sp, sc p⟩]) ss (upd sc p bs.length) ∧ Below N w w' := by
  have HL := h.mp.look hp
  obtain ⟨w1, hst, hm1, ht1⟩ := h.draw.mp.store hp (z := (bs.length : Int)) (WalkArith.wf_i64 (by omega)) (by omega)
  obtain ⟨st1, hb1⟩ := h.draw.mapped ht1 hm1
  obtain ⟨g, cap, w2, hrun, hown, hgr⟩ := app1 w1 (N + 3) 32 54 32 _ 3 40 Yba.underlying32 info54 rfl (by decide) (by decide) ab cb bs.length _ st1.rb #[.string (pf p), .string sp, .int .i64 (sc p)] rfl (by simp [Value.oneCell']) (by omega) st1.size
  obtain ⟨k1, k2, st2, hb2⟩ := st1.bound ⟨p, sp, sc p⟩ hgr hown
  have hbel : Below N w _ := (Below.refl N w).drew.trans (hb1.trans hb2)
  have c7 := h.c7
  have c8 := h.c8
  have d7 := st1.c7
  clear hb1 hb2 hgr hown ht1 hm1
  by_cases hs : sc p = -1
  · have hsd : decide (sc p ≠ -1) = false := by simp [hs]
    rw [hsd, if_pos hs] at HL
    rw [hs] at hrun
    go_enter Yba.func6, Yba.ntmps6
    go_upto_region 3 with fail
    go_region
    go_wp2_with (at_builtin; refine wpList_append_run rfl (.tmp 33) (.tmp 38) 32 32 rfl _ _ rfl rfl _ _ hrun ?_)
    go_end0
    exact ⟨rfl, _, _, st2, hbel⟩
  · have hsd : decide (sc p ≠ -1) = true := by simp [hs]
    rw [hsd, if_neg hs] at HL
    go_enter Yba.func6, Yba.ntmps6
    go_upto_region 3 with fail
    go_region
    go_wp2_with (at_builtin; refine wpList_append_run rfl (.tmp 33) (.tmp 38) 32 32 rfl _ _ rfl rfl _ _ hrun ?_)
    go_end0
    exact ⟨rfl, _, _, st2, hbel⟩
end Go.Proofs.Ybulkbpay.un
