import Derived.Test.YbulkbpakMem
import Derived.BigQuiet
import Derived.Deep.QuietTactic
namespace Go.Proofs.Ybulkbpak.ex
open Go.ChangeShapes Go.WideShapes Go.ChangeAt Go.RowKit

/-- a string's bytes with zeros behind, up to n -/
def padL (c : List UInt8) (n : Nat) : List UInt8 := c ++ List.replicate (n - c.length) 0

def lenOf : Value → Nat | .slice _ l _ => l | _ => 0

set_option maxHeartbeats 800000 in
theorem pad_any (c : ByteArray) (n : Nat) (z : Int) (hz : z = (n : Int)) (hc : c.size ≤ 4096) (hn : n ≤ 8) (w : World) :
    Calls Yba.prog 4 #[.string c, .int .i64 z] w fun e w' => e = .returned (.string ⟨(padL c.data.toList n).toArray⟩) ∧ Below w.heap.size w w' := by
  subst hz
  have hmax : maxLen = 9223372036854775807 := by decide
  obtain ⟨cap, w1, hconv, hbr, hgr⟩ := conv_bytes w c (by omega)
  have hB1 : Below w.heap.size w w1 := (Below.refl _ _).grown hgr (Nat.le_refl _) (fun k e => by cases e)
  have HB1 : Hid (Below w.heap.size w w1) := hB1
  have HBR : Hid (BR w1 w.heap.size w.heap.size cap c.data.toList) := hbr
  have hlen : c.data.toList.length = c.size := by simp
  have HLEN : Hid (c.data.toList.length = c.size) := hlen
  clear hB1 hbr hgr hlen hmax
  go_enter Yba.func4, Yba.ntmps4
  go_wp2
  clear hconv
  go_loopw [5] (fun b wr => ∃ (k g cp : Nat), (k = 0 ∨ c.size + k ≤ n) ∧ b = .slice (some ⟨g, 0, none⟩) (c.size + k) cp ∧ BR wr w.heap.size g cp (c.data.toList ++ List.replicate k 0) ∧ Below w.heap.size w wr) (fun b _ => n - lenOf b)
  case atStart => exact ⟨0, w.heap.size, cap, .inl rfl, by simp, by simpa using HBR.out, HB1.out⟩
  case round =>
    obtain ⟨k, g, cp, hk, rfl, hbr, hbel⟩ := hrel
    have hxl : (c.data.toList ++ List.replicate k 0).length = c.size + k := by simp
    have HXL : Hid ((c.data.toList ++ List.replicate k (0 : UInt8)).length = c.size + k) := hxl
    by_cases hlt : c.size + k < n
    · have hba : BR (wr.alloc (.cells #[.int .u8 0] 5)) w.heap.size g cp (c.data.toList ++ List.replicate k 0) := hbr.kept (by simp) (Below.heap_alloc _ _ _ hbr.hi)
      have hsz := hbel.size
      obtain ⟨g', cp', w', hrun, hbr', hgr'⟩ := app_row (wr.alloc (.cells #[.int .u8 0] 5)) w.heap.size g cp _ [0] 29 (.slice (some ⟨wr.heap.size, 0, none⟩) 1 1) hba (by simp; omega)
        (Src.ofSlice _ Yba.underlying29 ⟨wr.heap.size, 0, none⟩ 1 1 [.int .u8 0] rfl (fun j u hj => by
          rw [add0]
          match j, hj with
          | 0, hj => simp at hj; subst hj; exact World.cell?_alloc_new _ _ _ 0) (by simp [Value.oneCell'])) (by rw [hxl]; simp; omega)
      rw [hxl] at hrun
      have HBR' : Hid (BR w' w.heap.size g' cp' (c.data.toList ++ List.replicate (k + 1) 0)) := by
        rw [List.append_assoc] at hbr'
        rw [List.replicate_succ']; exact hbr'
      have HBL' : Hid (Below w.heap.size w w') := (hbel.alloc (by omega) _).grown hgr' (by simp; omega) (fun kk e => by cases e; exact hbr.lo)
      clear hba hbr' hgr' hbr hbel hxl HXL
      go_wp2_with (at_builtin; refine wpList_append_run rfl (.tmp 12) (.tmp 13) 29 29 rfl _ _ rfl rfl _ _ hrun ?_)
      go_roundw
      case rel => exact ⟨k + 1, g', cp', .inr (by omega), rfl, HBR'.out, HBL'.out⟩
      case measure => simp [lenOf]; omega
    · have hcs := conv_string wr w.heap.size g cp _ hbr
      rw [hxl] at hcs
      have HP : Hid (c.data.toList ++ List.replicate k 0 = padL c.data.toList n) := by
        show _ = c.data.toList ++ List.replicate (n - c.data.toList.length) 0
        rw [HLEN.out, show n - c.size = k by omega]
      clear hxl HXL hbr
      generalize c.data.toList ++ List.replicate k 0 = L at *
      go_wp2
      go_ret
      exact ⟨by rw [← HP.out]; rfl, hbel⟩
end Go.Proofs.Ybulkbpak.ex
