import Derived.Test.YbulkbpakBits
namespace Go.Proofs.Ybulkbpak.ex
open Go.ChangeShapes Go.WideShapes Go.ChangeAt Go.RowKit

theorem bit_any' (sl i M : Nat) (z : Int) (hz : z = (sl : Int)) (hs : sl < 64) (hi : i = sl / 8) (hM : M = 2 ^ (sl % 8)) (w : World) :
    Calls Yba.prog 8 #[.int .i64 z] w fun e w' => e = .returned (.tuple #[.int .i64 (i : Int), .int .u8 (M : Int)]) ∧ ∃ n, w' = w.drewN n := by
  subst hi hM; exact bit_any sl z hz hs w

theorem grown_drewN (w : World) (n : Nat) (r : Option Nat) : w.grownBy (w.drewN n) r := ⟨rfl, rfl, rfl, Nat.le_refl _, fun _ _ _ => rfl⟩
theorem grown_set {w w' : World} {g : Nat} (h : w.grownBy w' (some g)) (k : Nat) (v : Value) : w.grownBy (w'.setCell ⟨g, k, none⟩ v) (some g) :=
  ⟨h.os, h.tape, h.output, by rw [World.size_setCell]; exact h.size, fun j hj hne => by rw [Below.heap_setCell _ _ _ _ (fun e => hne (by rw [e]))]; exact h.block j hj hne⟩
theorem grown_dr {w w' : World} {r : Option Nat} (h : w.grownBy w' r) (n : Nat) : w.grownBy (w'.drewN n) r := ⟨h.os, h.tape, h.output, h.size, h.block⟩

set_option maxHeartbeats 1600000 in
theorem set_any (w : World) (B S g cap wd sl : Nat) (z : Int) (hz : z = (sl : Int)) (xs : List UInt8) (hw : 1 ≤ wd) (hw4 : wd ≤ 4) (hsl : sl < 8 * wd) (hbr : BR w B g cap xs) (hlen : 2 * wd ≤ xs.length) (hmx : xs.length ≤ 5000) (hSg : S ≠ g)
    (c2 : w.cell? ⟨S, 2, none⟩ = some (.int .i64 wd)) (c5 : w.cell? ⟨S, 5, none⟩ = some (.slice (some ⟨g, 0, none⟩) xs.length cap)) :
    Calls Yba.prog 7 #[.pointer (some ⟨S, 0, none⟩), .int .i64 z, .bool false, .bool true] w
      fun e w' => e = .returned (.tuple #[]) ∧ BR w' B g cap (mdl (sl / 8) (wd + sl / 8) (sl % 8) xs) ∧ w.grownBy w' (some g) := by
  subst hz
  obtain ⟨i, hi⟩ : ∃ i, i = sl / 8 := ⟨_, rfl⟩
  obtain ⟨t, ht⟩ : ∃ t, t = sl % 8 := ⟨_, rfl⟩
  obtain ⟨M, hM⟩ : ∃ M : Nat, M = 2 ^ t := ⟨_, rfl⟩
  have hM' : M = 2 ^ (sl % 8) := by rw [hM, ht]
  have hiw : i < wd := by omega
  have ht8 : t < 8 := by omega
  have hix : i < xs.length := by omega
  have hkx : wd + i < xs.length := by omega
  have HBIT : Hid (∀ w, Calls Yba.prog 8 #[.int .i64 (sl : Int)] w fun e w' => e = .returned (.tuple #[.int .i64 (i : Int), .int .u8 (M : Int)]) ∧ ∃ n, w' = w.drewN n) := fun w => bit_any' sl i M _ rfl (by omega) hi hM' w
  rw [← hi, ← ht, mdl_two i (wd + i) t xs hix hkx (by omega)]
  have hci := hbr.at_ i hix
  have hck := hbr.at_ (wd + i) hkx
  have hfi := hbr.fr i (by have := hbr.le; omega)
  have hfk := hbr.fr (wd + i) (by have := hbr.le; omega)
  have h1 : bits .andNot .u8 (xs[i].toNat : Int) (M : Int) = ((clrB xs[i] t).toNat : Int) := by rw [hM]; exact clr_eq _ t ht8
  have h2 : bits .andNot .u8 (xs[wd + i].toNat : Int) (M : Int) = ((clrB xs[wd + i] t).toNat : Int) := by rw [hM]; exact clr_eq _ t ht8
  have h3 : bits .or .u8 ((clrB xs[wd + i] t).toNat : Int) (M : Int) = ((setB xs[wd + i] t).toNat : Int) := by rw [hM, set_eq _ t ht8, set_clr _ t ht8]
  have HR : Hid (∀ n1 n2 n3, BR (((((w.drewN n1).setCell ⟨g, i, none⟩ (.int .u8 ((clrB xs[i] t).toNat : Int))).setCell ⟨g, wd + i, none⟩ (.int .u8 ((clrB xs[wd + i] t).toNat : Int))).drewN n2).setCell ⟨g, wd + i, none⟩ (.int .u8 ((setB xs[wd + i] t).toNat : Int)) |>.drewN n3) B g cap ((xs.set i (clrB xs[i] t)).set (wd + i) (setB xs[wd + i] t))) := by
    intro n1 n2 n3
    have a1 := ((hbr.drewN n1).set i hix (clrB xs[i] t)).set (wd + i) (by simpa using hkx) (clrB xs[wd + i] t)
    have a2 := ((a1.drewN n2).set (wd + i) (by simpa using hkx) (setB xs[wd + i] t)).drewN n3
    rw [List.set_set] at a2
    exact a2
  have HG : Hid (∀ n1 n2 n3, w.grownBy (((((w.drewN n1).setCell ⟨g, i, none⟩ (.int .u8 ((clrB xs[i] t).toNat : Int))).setCell ⟨g, wd + i, none⟩ (.int .u8 ((clrB xs[wd + i] t).toNat : Int))).drewN n2).setCell ⟨g, wd + i, none⟩ (.int .u8 ((setB xs[wd + i] t).toNat : Int)) |>.drewN n3) (some g)) :=
    fun n1 n2 n3 => grown_dr (grown_set (grown_dr (grown_set (grown_set (grown_drewN w n1 _) _ _) _ _) n2) _ _) n3
  clear hi ht hM hM' ht8 hbr
  generalize xs[i] = x at *
  generalize xs[wd + i] = y at *
  generalize hX : clrB x t = x' at *
  generalize hY : clrB y t = y' at *
  generalize hZ : setB y t = z' at *
  clear hX hY hZ
  go_enter Yba.func7, Yba.ntmps7
  go_wp2_with (go_at_call 8; refine (HBIT.out _).mono ?_; rintro e w' ⟨rfl, nb, rfl⟩)
  go_region
  go_wp2
  go_region
  go_wp2
  go_end0
  exact ⟨rfl, HR.out nb 0 2, HG.out nb 0 2⟩
end Go.Proofs.Ybulkbpak.ex
