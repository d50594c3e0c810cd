import Derived.Test.YbulkbpakCover
import Derived.Deep.DeepCutAuto
namespace Go.Proofs.Ybulkbpak.ex
open Go.ChangeShapes Go.WideShapes Go.ChangeAt Go.RowKit

theorem mdl_len (i k t : Nat) (xs : List UInt8) : (mdl i k t xs).length = xs.length := by simp [mdl]

set_option maxHeartbeats 1600000 in
theorem cover_any (w : World) (S C L wd sl : Nat) (z : Int) (hz : z = (sl : Int)) (ps : Nat → List UInt8) (hS : S < w.heap.size) (hC : C < w.heap.size) (hSC : S ≠ C) (hw : 1 ≤ wd) (hw4 : wd ≤ 4) (hsl : sl < 8 * wd) (hL : L ≤ 1024)
    (hps : ∀ j, j < L → 2 * wd ≤ (ps j).length ∧ (ps j).length ≤ 5000) (h0 : Cov w S C L wd ps (mdl (sl / 8) (wd + sl / 8) (sl % 8)) 0 w) :
    Calls Yba.prog 5 #[.pointer (some ⟨S, 0, none⟩), .int .i64 z] w fun e w' => e = .returned (.tuple #[]) ∧ Cov w S C L wd ps (mdl (sl / 8) (wd + sl / 8) (sl % 8)) L w' := by
  subst hz
  have HP : Hid (∀ j, j < L → 2 * wd ≤ (ps j).length ∧ (ps j).length ≤ 5000) := hps
  have HM : Hid (∀ xs, (mdl (sl / 8) (wd + sl / 8) (sl % 8) xs).length = xs.length) := fun xs => mdl_len _ _ _ xs
  have HSET : Hid (∀ (w' : World) (g cap : Nat) (xs : List UInt8), BR w' w.heap.size g cap xs → 2 * wd ≤ xs.length → xs.length ≤ 5000 → w'.cell? ⟨S, 2, none⟩ = some (.int .i64 wd) → w'.cell? ⟨S, 5, none⟩ = some (.slice (some ⟨g, 0, none⟩) xs.length cap) →
      Calls Yba.prog 7 #[.pointer (some ⟨S, 0, none⟩), .int .i64 (sl : Int), .bool false, .bool true] w' fun e w'' => e = .returned (.tuple #[]) ∧ BR w'' w.heap.size g cap (mdl (sl / 8) (wd + sl / 8) (sl % 8) xs) ∧ w'.grownBy w'' (some g)) :=
    fun w' g cap xs h1 h2 h3 h4 h5 => set_any w' w.heap.size S g cap wd sl _ rfl xs hw hw4 hsl h1 h2 h3 (by have := h1.lo; omega) h4 h5
  generalize mdl (sl / 8) (wd + sl / 8) (sl % 8) = f at *
  have q4 := h0.c4
  clear hps hsl
  go_enter Yba.func5, Yba.ntmps5
  go_wp2
  go_loopw [11] (fun i wr => ∃ k : Nat, k ≤ L ∧ i = .int .i64 k ∧ Cov w S C L wd ps f k wr) (fun i _ => L - (intOf i).toNat)
  case atStart => exact ⟨0, Nat.zero_le _, rfl, h0⟩
  clear q4 h0
  case round =>
    obtain ⟨k, hk, rfl, hcov⟩ := hrel
    by_cases hlt : k < L
    · have hdn : decide ((k : Int) < (L : Int)) = true := by simp; omega
      obtain ⟨hp1, hp2⟩ := HP.out k hlt
      have r1 := hcov.row k hlt
      rw [if_neg (Nat.lt_irrefl k)] at r1
      have q4 := hcov.c4
      have f5 := hcov.frS 5
      have hsz := hcov.size
      -- what the append comes to
      have key : ∀ w1 g cap, BR w1 w.heap.size g cap (ps k) → ∀ r, (∀ b, r = some b → w.heap.size ≤ b) → wr.grownBy w1 r → (w1.cell? ⟨S, 5, none⟩).isSome = true ∧ w1.frozen? ⟨S, 5, none⟩ = false ∧ Mid w S C L wd ps f k g cap (ps k) (w1.setCell ⟨S, 5, none⟩ (.slice (some ⟨g, 0, none⟩) (ps k).length cap)) := by
        intro w1 g cap hb r hr hg
        have hkS : w1.heap[S]? = wr.heap[S]? := hg.block S (by omega) (fun e => by have := hr S e.symm; omega)
        refine ⟨?_, ?_, hcov.mid hS hC hSC hr hb hg⟩
        · rw [World.cell?_of_block (a := ⟨S, 5, none⟩) hkS]; rcases hcov.c5 with h | ⟨_, _, _, h, _⟩ <;> rw [h] <;> rfl
        · rw [World.frozen?_of_block (a := ⟨S, 5, none⟩) hkS]; exact f5
      rcases hcov.c5 with h5 | ⟨g0, cap0, xs0, h5, hb0⟩
      · obtain ⟨g, cap, w1, hrun, hbr, hgr⟩ := app_nil wr w.heap.size (str (ps k)) (by rw [str_size]; omega) hsz (by rw [str_size]; omega)
        rw [str_list] at hbr
        rw [str_size] at hrun
        obtain ⟨i1, i2, hmid⟩ := key w1 g cap hbr none (fun b e => by cases e) hgr
        obtain ⟨u, i1⟩ := Option.isSome_iff_exists.1 i1
        clear hbr hgr hcov key
        go_upto_region 4 with (at_builtin; refine wpList_append_run rfl (.tmp 21) (.tmp 22) 29 9 rfl _ _ rfl rfl _ _ hrun ?_)
        generalize w1.setCell ⟨S, 5, none⟩ (.slice (some ⟨g, 0, none⟩) (ps k).length cap) = W at hmid ⊢
        clear i1 i2 hrun
        have m2 := hmid.c2
        have m5 := hmid.c5
        go_wp2_with (go_at_call 7; refine (HSET.out _ g cap (ps k) hmid.br hp1 hp2 m2 m5).mono ?_; rintro e w2 ⟨rfl, hb2, hg2⟩)
        have hmid2 := hmid.wrote hS hC hb2 (HM.out _) hg2
        clear hb2 hg2 hmid m2 m5
        have n4 := hmid2.c4
        have n5 := hmid2.c5
        have nrow := hmid2.row k hlt
        have nfr := hmid2.frC k
        have hcs : (convert 29 9 (.slice (some ⟨g, 0, none⟩) (f (ps k)).length cap)).run Yba.prog w2.drew = .ok (.string (str (f (ps k)))) w2.drew := conv_string _ _ _ _ _ (hmid2.br.drewN 1)
        go_region
        go_wp2
        go_roundw
        case rel => exact ⟨k + 1, by omega, by go_num, hmid2.next hC hSC hlt 1⟩
        case measure => simp [intOf]; omega
      · have hrow := app_row wr w.heap.size g0 cap0 [] (ps k) 9 (.string (str (ps k))) hb0.cutAll hsz (by have := Src.ofString (P := Yba.prog) wr Yba.underlying9 (str (ps k)); rw [str_size] at this; unfold byteCells at this; rw [str_list] at this; exact this) (by simp; omega)
        obtain ⟨g, cap, w1, hrun, hbr, hgr⟩ := hrow
        rw [List.nil_append] at hbr
        rw [List.length_nil, Nat.zero_add] at hrun
        obtain ⟨i1, i2, hmid⟩ := key w1 g cap hbr (some g0) (fun b e => by cases e; exact hb0.lo) hgr
        obtain ⟨u, i1⟩ := Option.isSome_iff_exists.1 i1
        have hx0 := hb0.le
        have hx1 := hb0.cm
        clear hbr hgr hcov key hb0
        go_upto_region 4 with (at_builtin; refine wpList_append_run rfl (.tmp 21) (.tmp 22) 29 9 rfl _ _ rfl rfl _ _ hrun ?_)
        generalize w1.setCell ⟨S, 5, none⟩ (.slice (some ⟨g, 0, none⟩) (ps k).length cap) = W at hmid ⊢
        clear i1 i2 hrun
        have m2 := hmid.c2
        have m5 := hmid.c5
        go_wp2_with (go_at_call 7; refine (HSET.out _ g cap (ps k) hmid.br hp1 hp2 m2 m5).mono ?_; rintro e w2 ⟨rfl, hb2, hg2⟩)
        have hmid2 := hmid.wrote hS hC hb2 (HM.out _) hg2
        clear hb2 hg2 hmid m2 m5
        have n4 := hmid2.c4
        have n5 := hmid2.c5
        have nrow := hmid2.row k hlt
        have nfr := hmid2.frC k
        have hcs : (convert 29 9 (.slice (some ⟨g, 0, none⟩) (f (ps k)).length cap)).run Yba.prog w2.drew = .ok (.string (str (f (ps k)))) w2.drew := conv_string _ _ _ _ _ (hmid2.br.drewN 1)
        go_region
        go_wp2
        go_roundw
        case rel => exact ⟨k + 1, by omega, by go_num, hmid2.next hC hSC hlt 1⟩
        case measure => simp [intOf]; omega
    · have hkL : L ≤ k := by omega
      go_wp2
      go_end0
      exact ⟨rfl, (show k = L by omega) ▸ hcov⟩
end Go.Proofs.Ybulkbpak.ex
