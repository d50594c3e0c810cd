import Derived.Test.YbulkbpayDecl
namespace Go.Proofs.Ybulkbpay.un
open Go.ChangeShapes Go.WideShapes Go.ChangeAt Go.RowKit

theorem st_start (w : World) : St w.heap.size (((w.alloc (.map #[] 0)).alloc (.map #[] 0)).alloc (.cells #[.slice none 0 0, .int .i64 0, .nilIface, .bool false, .bool false, .bool false, .slice none 0 0, .slice none 0 0, .map (some w.heap.size), .slice none 0 0, .slice none 0 0, .slice none 0 0, .map (some (w.heap.size + 1))] 38))
    none none none 0 0 0 [] [] [] (fun _ => -1) := by
  have hc : ∀ (o : Nat) v, (#[.slice none 0 0, .int .i64 0, .nilIface, .bool false, .bool false, .bool false, .slice none 0 0, .slice none 0 0, .map (some w.heap.size), .slice none 0 0, .slice none 0 0, .slice none 0 0, .map (some (w.heap.size + 1))] : Array Value)[o]? = some v →
      (((w.alloc (.map #[] 0)).alloc (.map #[] 0)).alloc (.cells #[.slice none 0 0, .int .i64 0, .nilIface, .bool false, .bool false, .bool false, .slice none 0 0, .slice none 0 0, .map (some w.heap.size), .slice none 0 0, .slice none 0 0, .slice none 0 0, .map (some (w.heap.size + 1))] 38)).cell? ⟨w.heap.size + 2, o, none⟩ = some v := by
    intro o v hv
    rw [World.cell?_alloc_at _ _ _ _ (by simp)]
    exact hv
  refine ⟨by simp, ⟨_, hc 5 _ rfl⟩, hc 6 _ rfl, hc 7 _ rfl, hc 8 _ rfl, fun o => ?_, World.ownsRow_nil _ _ _ _, World.ownsRow_nil _ _ _ _, World.ownsRow_nil _ _ _ _, ?_⟩
  · rw [World.frozen?_alloc_at _ _ _ _ (by simp)]
  · exact (mp_made w).block (by rw [Below.heap_alloc _ _ _ (by simp; omega), Below.heap_alloc _ _ _ (by simp)])

theorem new_any (w : World) : Calls Yba.prog 4 #[.slice none 0 0] w fun e w' => e = .returned (.pointer (some ⟨w.heap.size + 2, 0, none⟩)) ∧ St w.heap.size w' none none none 0 0 0 [] [] [] (fun _ => -1) ∧ Below w.heap.size w w' := by
  have hmm := @run_makeMap Yba.prog
  go_enter Yba.func4, Yba.ntmps4
  go_wp2
  go_ret
  exact ⟨rfl, st_start w, (((Below.refl _ w).alloc (Nat.le_refl _) _).alloc (by simp) _).alloc (by simp; omega) _⟩
end Go.Proofs.Ybulkbpay.un
