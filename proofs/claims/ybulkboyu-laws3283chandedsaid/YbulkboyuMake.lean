import Derived.Test.YbulkboyuHanded
namespace Go.Proofs.Ybulkboyu.handed
open Go.ChangeShapes Go.WideShapes Go.ChangeAt Go.RowKit
theorem info51 : (Yba.prog.info? 51).map (fun i => (i.zero, i.size, i.bytes)) = some (some (.pointer none), 1, 8) := by kernel_rfl
theorem info74 : (Yba.prog.info? 74).map (fun i => (i.zero, i.size, i.bytes)) = some (some (.slice none 0 0), 1, 24) := by kernel_rfl

theorem made51 : madeCells (Value.pointer none).cells (Int.toNat 3 * 1) = #[.pointer none, .pointer none, .pointer none] := by kernel_rfl
theorem made74 : madeCells (Value.slice none 0 0).cells (Int.toNat 3 * 1) = #[.slice none 0 0, .slice none 0 0, .slice none 0 0] := by kernel_rfl
theorem make50 (w : World) : (Instr.makeSlice 50 (.int .i64 3) (.int .i64 3)).run Yba.prog w = .ok (.slice (some ⟨w.heap.size, 0, none⟩) 3 3) (w.alloc (.cells #[.pointer none, .pointer none, .pointer none] 51)) := by
  obtain ⟨i0, hi, hz0, hz1, hz2⟩ := info_parts info51
  rw [run_makeSlice w 50 51 i0 (.pointer none) Yba.underlying50 hi hz0 .i64 .i64 3 3 (by decide) (by decide) (by rw [hz1]; decide) (by rw [hz2]; decide) (by decide), hz1, made51]
  rfl

theorem make69 (w : World) : (Instr.makeSlice 69 (.int .i64 3) (.int .i64 3)).run Yba.prog w = .ok (.slice (some ⟨w.heap.size, 0, none⟩) 3 3) (w.alloc (.cells #[.slice none 0 0, .slice none 0 0, .slice none 0 0] 74)) := by
  obtain ⟨i0, hi, hz0, hz1, hz2⟩ := info_parts info74
  rw [run_makeSlice w 69 74 i0 (.slice none 0 0) Yba.underlying69 hi hz0 .i64 .i64 3 3 (by decide) (by decide) (by rw [hz1]; decide) (by rw [hz2]; decide) (by decide), hz1, made74]
  rfl
end Go.Proofs.Ybulkboyu.handed
