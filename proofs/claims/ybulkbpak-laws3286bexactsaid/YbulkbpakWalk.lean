import Derived.Test.YbulkbpakLaw
import Derived.Deep.DeepCutAuto
namespace Go.Proofs.Ybulkbpak.ex
open Go.ChangeShapes Go.WideShapes Go.ChangeAt Go.RowKit

set_option maxHeartbeats 1600000 in
theorem walk (a0 a1 : Int) (ao : Option Addr) (len cap : Nat) (cs : Nat → ByteArray) (w : World) (hcs : ∀ j, j < len → ∃ x, ao = some x ∧ w.cell? (x.add j) = some (.string (cs j)))
    (h0 : 0 ≤ a0) (h0' : a0 < 256) (h1 : 0 ≤ a1) (h1' : a1 < 65536) :
    Calls Yba.prog 3 #[.int .u8 a0, .int .u16 a1, .slice ao len cap] w fun e w' => e = .returned (.bool true) ∧ Below w.heap.size w w' := by
  by_cases hbig : 1024 < len
  · go_enter Yba.func3, Yba.ntmps3
    go_wp2
    go_ret
    exact ⟨rfl, Below.refl _ _⟩
  have HCS : Hid (∀ j, j < len → ∃ x, ao = some x ∧ w.cell? (x.add j) = some (.string (cs j))) := hcs
  obtain ⟨n0, rfl⟩ := Int.eq_ofNat_of_zero_le h0
  obtain ⟨n1, rfl⟩ := Int.eq_ofNat_of_zero_le h1
  have hbg : decide ((len : Int) > 1024) = false := by simp; omega
  go_enter Yba.func3, Yba.ntmps3
  go_wp2
  go_loopw [23] (fun i wr => ∃ k : Nat, k ≤ len ∧ i = .int .i64 k ∧ w = wr ∧ ∀ j, j < k → (cs j).size ≤ 4096) (fun i _ => len - (intOf i).toNat)
  case atStart => exact ⟨0, Nat.zero_le _, rfl, rfl, fun j hj => by omega⟩
  case round =>
    obtain ⟨k, hk, rfl, rfl, hall⟩ := hrel
    by_cases hlt : k < len
    · have hdn : decide ((k : Int) < (len : Int)) = true := by simp; omega
      obtain ⟨x, rfl, r1⟩ := HCS.out k hlt
      by_cases hs : (cs k).size ≤ 4096
      · have hsd : decide (((cs k).size : Int) > 4096) = false := by simp; omega
        go_wp2
        go_roundw
        case rel => exact ⟨k + 1, by omega, by go_num, by first | rfl | trivial, fun j hj => (Nat.lt_or_ge j k).elim (hall j) (fun h => (show k = j by omega) ▸ hs)⟩
        case measure => simp [intOf]; omega
      · have hsd : decide (((cs k).size : Int) > 4096) = true := by simp; omega
        go_wp2
        go_ret
        exact ⟨rfl, Below.refl _ _⟩
    · obtain rfl : len = k := by omega
      clear hk hlt
      have hdn : decide ((len : Int) < (len : Int)) = false := by simp
      go_upto_region 11 with fail
      obtain ⟨wd, hwd⟩ := Int.eq_ofNat_of_zero_le (show 0 ≤ (n0 : Int) % 4 + 1 by omega)
      simp only [hwd]
      have hwd1 : 1 ≤ wd := by omega
      have hwd4 : wd ≤ 4 := by omega
      obtain ⟨sl, hsl⟩ := Int.eq_ofNat_of_zero_le (show 0 ≤ (n1 : Int) % (8 * (wd : Int)) from Int.emod_nonneg _ (by omega))
      have hslt : sl < 8 * wd := by have := Int.emod_lt_of_pos (n1 : Int) (show 0 < 8 * (wd : Int) by omega); omega
      simp only [hsl]
      clear hwd hsl
      have hall' : Hid (∀ j, j < len → (cs j).size ≤ 4096) := fun j hj => hall j (by omega)
      clear hall
      have m1 := make_strs len (by omega) w
      have m2 := make_strs len (by omega) (w.alloc (.cells (rep len) 9))
      have HP : Hid (∀ j, j < len → ∀ w', Calls Yba.prog 4 #[.string (cs j), .int .i64 (2 * (wd : Int))] w' fun e w'' => e = .returned (.string (str (padL (cs j).data.toList (2 * wd)))) ∧ Below w'.heap.size w' w'') :=
        fun j hj w' => pad_any' (cs j) (2 * wd) _ (by omega) (hall'.out j hj) (by omega) w'
      have HL : Hid (∀ j, j < len → 2 * wd ≤ (padL (cs j).data.toList (2 * wd)).length ∧ (padL (cs j).data.toList (2 * wd)).length ≤ 5000) :=
        fun j hj => padL_len (cs j) (2 * wd) (hall'.out j hj) (by omega)
      obtain ⟨ps, hps⟩ : ∃ ps : Nat → List UInt8, ps = fun j => padL (cs j).data.toList (2 * wd) := ⟨_, rfl⟩
      have HP : Hid (∀ j, j < len → ∀ w', Calls Yba.prog 4 #[.string (cs j), .int .i64 (2 * (wd : Int))] w' fun e w'' => e = .returned (.string (str (ps j))) ∧ Below w'.heap.size w' w'') := by rw [hps]; exact HP
      have HL : Hid (∀ j, j < len → 2 * wd ≤ (ps j).length ∧ (ps j).length ≤ 5000) := by rw [hps]; exact HL
      clear hps
      have hst := two_start w len ps
      go_wp2
      generalize (w.alloc (.cells (rep len) 9)).alloc (.cells (rep len) 9) = w2 at hst ⊢
      clear m1 m2
      go_loopw [48] (fun i wr => ∃ k : Nat, k ≤ len ∧ i = .int .i64 k ∧ Two w len ps k wr) (fun i _ => len - (intOf i).toNat)
      case atStart => exact ⟨0, Nat.zero_le _, rfl, hst⟩
      clear hst
      case round =>
        obtain ⟨k2, hk2, rfl, htwo⟩ := hrel
        by_cases hlt2 : k2 < len
        · have hdn2 : decide ((k2 : Int) < (len : Int)) = true := by simp; omega
          obtain ⟨x, rfl, r1⟩ := HCS.out k2 hlt2
          have r2 : wr.cell? (x.add k2) = some (.string (cs k2)) := (htwo.bel.cell (World.block_lt_of_cell? _ _ r1)).trans r1
          clear r1
          go_upto_region 17 with (go_at_call 4; refine (HP.out k2 hlt2 _).mono ?_; rintro e w3 ⟨rfl, hb3⟩)
          have hnx := htwo.next hlt2 hb3
          have hsz := htwo.size
          have g1 : w3.cell? ⟨w.heap.size, k2, none⟩ = some (.string ⟨#[]⟩) := by rw [hb3.cell (p := ⟨w.heap.size, k2, none⟩) (by show w.heap.size < _; omega), htwo.c k2 hlt2, if_neg (Nat.lt_irrefl _)]
          have g2 : w3.cell? ⟨w.heap.size + 1, k2, none⟩ = some (.string ⟨#[]⟩) := by rw [hb3.cell (p := ⟨w.heap.size + 1, k2, none⟩) (by show w.heap.size + 1 < _; omega), htwo.d k2 hlt2, if_neg (Nat.lt_irrefl _)]
          have g3 : w3.frozen? ⟨w.heap.size, k2, none⟩ = false := by rw [hb3.frozen (p := ⟨w.heap.size, k2, none⟩) (by show w.heap.size < _; omega)]; exact htwo.frC k2
          have g4 : w3.frozen? ⟨w.heap.size + 1, k2, none⟩ = false := by rw [hb3.frozen (p := ⟨w.heap.size + 1, k2, none⟩) (by show w.heap.size + 1 < _; omega)]; exact htwo.frD k2
          clear hb3 htwo
          go_wp2
          go_roundw
          case rel => exact ⟨k2 + 1, by omega, by go_num, hnx⟩
          case measure => simp [intOf]; omega
        · obtain rfl : len = k2 := by omega
          clear hk2 hlt2
          have hdn2 : decide ((len : Int) < (len : Int)) = false := by simp
          have hcov := htwo.cov (wd := wd) (mdl (sl / 8) (wd + sl / 8) (sl % 8))
          have hsz := htwo.size
          have hcall := cover_any _ wr.heap.size w.heap.size len wd sl (sl : Int) rfl ps (by simp) (by simp; omega) (by omega) hwd1 hwd4 hslt (by omega) HL.out hcov
          have HM : Hid (∀ l : List UInt8, l.length ≤ 5000 → ∀ w', Calls Yba.prog 6 #[.string (str l), .int .i64 (wd : Int), .int .i64 (sl : Int)] w' fun e w'' => e = .returned (.string (str (mdl (sl / 8) (wd + sl / 8) (sl % 8) l))) ∧ Below w'.heap.size w' w'') :=
            fun l hl w' => model_any' l wd sl _ _ rfl rfl hwd1 hwd4 hslt hl w'
          generalize mdl (sl / 8) (wd + sl / 8) (sl % 8) = f at hcall HM
          clear hcov
          go_upto_region 22 with (go_at_call 5; refine hcall.mono ?_; rintro e w4 ⟨rfl, hc4⟩)
          clear hcall
          have q4 := hc4.c4
          have D4 : Hid (∀ j, j < len → w4.cell? ⟨w.heap.size + 1, j, none⟩ = some (.string (str (ps j)))) := by
            intro j hj
            have hbk := hc4.oth (w.heap.size + 1) (by simp; omega) (by omega) (by omega)
            rw [World.cell?_of_block (a := ⟨w.heap.size + 1, j, none⟩) hbk, World.cell?_alloc_past _ _ _ (by omega), htwo.d j hj, if_pos hj]
          have C4 : Hid (∀ j, j < len → w4.cell? ⟨w.heap.size, j, none⟩ = some (.string (str (f (ps j))))) := by
            intro j hj
            rw [hc4.row j hj, if_pos hj]
          have S4 : wr.heap.size < w4.heap.size := by have := hc4.size; simp at this; omega
          have B4 : Below w.heap.size w w4 := by
            have hB := htwo.bel.alloc (show w.heap.size ≤ wr.heap.size by omega) (.cells #[.slice none 0 0, .slice none 0 0, .int .i64 wd, .slice none 0 0, .slice (some ⟨w.heap.size, 0, none⟩) len len, .slice none 0 0] 31)
            exact hB.trans ⟨hc4.os, hc4.tape, hc4.output, hc4.size, fun b hb => hc4.oth b (by simp; omega) (by omega) (by omega)⟩
          clear hc4 htwo
          generalize wr.heap.size = S at *
          have hlen : ((len : Int) != (len : Int)) = false := by simp
          go_wp2
          go_loopg [83] len (fun g i wr2 => ∃ k : Nat, k + g = len ∧ i = .int .i64 k ∧ Below w4.heap.size w4 wr2)
          case atStart => exact ⟨0, Nat.zero_add _, rfl, Below.refl _ _⟩
          case round =>
            obtain ⟨k3, hk3, rfl, hb5⟩ := hrel
            by_cases hlt3 : k3 < len
            · have hdn3 : decide ((k3 : Int) < (len : Int)) = true := by simp; omega
              go_upto_region 27 with fail
              go_cut [83, 100] from 83 to 101 (fun i c wx => i = .int .i64 (k3 : Int) ∧ c = .bool false ∧ Below w4.heap.size w4 wx)
              case first =>
                have FS : Hid (∀ w', Below w4.heap.size w4 w' → w'.cell? ⟨S, 4, none⟩ = some (.slice (some ⟨w.heap.size, 0, none⟩) len len) ∧ w'.cell? ⟨w.heap.size, k3, none⟩ = some (.string (str (f (ps k3)))) ∧ w'.cell? ⟨w.heap.size + 1, k3, none⟩ = some (.string (str (ps k3)))) := by
                  intro w' hb'
                  exact ⟨(hb'.cell (p := ⟨S, 4, none⟩) S4).trans q4, (hb'.cell (p := ⟨w.heap.size, k3, none⟩) (by show w.heap.size < _; omega)).trans (C4.out k3 hlt3), (hb'.cell (p := ⟨w.heap.size + 1, k3, none⟩) (by show w.heap.size + 1 < _; omega)).trans (D4.out k3 hlt3)⟩
                obtain ⟨e1, e2, e3⟩ := FS.out _ hb5
                have hl5 := (HL.out k3 hlt3).2
                clear q4
                go_region_with (go_at_call 6; refine (HM.out (ps k3) hl5 _).mono ?_; rintro e w6 ⟨rfl, hb6⟩; have hb7 := (hb5.drew.trans (hb6.mono (show w4.heap.size ≤ _ from hb5.size))); obtain ⟨e4, e5, e6⟩ := FS.out _ hb7)
                all_goals (go_wp2_with fail; go_meet; exact ⟨rfl, by simp, by assumption⟩)
              case rest =>
                obtain ⟨rfl, rfl, hcut⟩ := hcut
                go_wp2
                go_roundg (gk - 1)
                case measure => omega
                case rel => exact ⟨k3 + 1, by omega, by go_num, hcut⟩
            · have hdn3 : decide ((k3 : Int) < (len : Int)) = false := by simp; omega
              go_wp2
              go_ret
              exact ⟨rfl, B4.trans (hb5.mono (by omega))⟩
end Go.Proofs.Ybulkbpak.ex
