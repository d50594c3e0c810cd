import Derived.Test.YbulkbpakPad
import Derived.Laws.BitsAllLaws
namespace Go.Proofs.Ybulkbpak.ex
open Go.ChangeShapes Go.WideShapes Go.ChangeAt Go.RowKit

/-- bit t of a byte struck out, put in -/
def clrB (x : UInt8) (t : Nat) : UInt8 := UInt8.ofNat (x.toNat &&& (255 - 2 ^ t))
def setB (x : UInt8) (t : Nat) : UInt8 := UInt8.ofNat (x.toNat ||| 2 ^ t)

theorem pow_lt (t : Nat) (h : t < 8) : 2 ^ t < 256 := by
  have : 2 ^ t ≤ 2 ^ 7 := Nat.pow_le_pow_right (by decide) (by omega)
  have e : (2 : Nat) ^ 7 = 128 := by decide
  omega
theorem mask_eq (t : Nat) (h : t < 8) : IntKind.u8.wrap ((2 : Int) ^ t) = ((2 ^ t : Nat) : Int) := by
  have := pow_lt t h
  have hc : ((2 : Int) ^ t) = ((2 ^ t : Nat) : Int) := by simp
  rw [hc, IntKind.wrap_u8]
  generalize (2 : Nat) ^ t = p at *
  omega
theorem clr_eq (x : UInt8) (t : Nat) (h : t < 8) : bits .andNot .u8 (x.toNat : Int) ((2 ^ t : Nat) : Int) = ((clrB x t).toNat : Int) := by
  rw [u8_andNot_nat _ _ (UInt8.toNat_lt x) (pow_lt t h)]
  unfold clrB
  rw [UInt8.toNat_ofNat_of_lt' (Nat.lt_of_le_of_lt Nat.and_le_left (UInt8.toNat_lt x))]
theorem set_eq (x : UInt8) (t : Nat) (h : t < 8) : bits .or .u8 (x.toNat : Int) ((2 ^ t : Nat) : Int) = ((setB x t).toNat : Int) := by
  rw [u8_or_nat _ _ (UInt8.toNat_lt x) (pow_lt t h)]
  unfold setB
  rw [UInt8.toNat_ofNat_of_lt' (Nat.or_lt_two_pow (n := 8) (UInt8.toNat_lt x) (pow_lt t h))]
theorem set_clr (x : UInt8) (t : Nat) (h : t < 8) : setB (clrB x t) t = setB x t := by
  have key : ∀ n, n < 256 → ∀ t, t < 8 → (n &&& (255 - 2 ^ t)) ||| 2 ^ t = n ||| 2 ^ t := by decide +kernel
  unfold setB clrB
  rw [UInt8.toNat_ofNat_of_lt' (Nat.lt_of_le_of_lt Nat.and_le_left (UInt8.toNat_lt x)), key _ (UInt8.toNat_lt x) t h]

theorem mask2 (t : Nat) (h : t < 8) : ((2 : Int) ^ t % 256) = ((2 ^ t : Nat) : Int) := by
  have := mask_eq t h
  rw [IntKind.wrap_u8] at this
  exact this

set_option maxHeartbeats 400000 in
theorem bit_any (sl : Nat) (z : Int) (hz : z = (sl : Int)) (hs : sl < 64) (w : World) :
    Calls Yba.prog 8 #[.int .i64 z] w fun e w' => e = .returned (.tuple #[.int .i64 ((sl / 8 : Nat) : Int), .int .u8 ((2 ^ (sl % 8) : Nat) : Int)]) ∧ ∃ n, w' = w.drewN n := by
  subst hz
  go_enter Yba.func8, Yba.ntmps8
  go_wp2
  go_quiet (fail)
  go_wp2
  go_ret2
  refine ⟨?_, _, rfl⟩
  show Ending.returned (Value.tuple #[.int .i64 ((sl : Int) / 8), .int .u8 ((2 : Int) ^ (sl % 8) % 256)]) = _
  rw [mask2 _ (by omega), show (sl : Int) / 8 = ((sl / 8 : Nat) : Int) by omega]

/-- what the two say: bit t of byte i struck out, bit t of byte k put in -/
def md (i k t : Nat) (j : Nat) (x : UInt8) : UInt8 := if j = i then clrB x t else if j = k then setB x t else x
def mT (i k t : Nat) (xs : List UInt8) (n : Nat) : List UInt8 := xs.mapIdx fun j x => if j < n then md i k t j x else x
def mdl (i k t : Nat) (xs : List UInt8) : List UInt8 := xs.mapIdx (md i k t)

theorem mT_len (i k t : Nat) (xs : List UInt8) (n : Nat) : (mT i k t xs n).length = xs.length := by simp [mT]
theorem mT_zero (i k t : Nat) (xs : List UInt8) : mT i k t xs 0 = xs := by
  unfold mT
  apply List.ext_getElem
  · simp
  · intro j h1 h2; simp
theorem mT_all (i k t : Nat) (xs : List UInt8) (n : Nat) (h : xs.length ≤ n) : mT i k t xs n = mdl i k t xs := by
  unfold mT mdl
  apply List.ext_getElem
  · simp
  · intro j h1 h2
    have : j < xs.length := by simpa using h1
    simp; omega
theorem mT_at (i k t : Nat) (xs : List UInt8) (n : Nat) (h : n < xs.length) : (mT i k t xs n)[n]'(by rw [mT_len]; exact h) = xs[n] := by simp [mT]
theorem mT_step (i k t : Nat) (xs : List UInt8) (n : Nat) (h : n < xs.length) : mT i k t xs (n + 1) = (mT i k t xs n).set n (md i k t n xs[n]) := by
  unfold mT
  apply List.ext_getElem
  · simp
  · intro j h1 h2
    simp only [List.getElem_mapIdx, List.getElem_set]
    by_cases e : n = j
    · subst e; simp
    · rw [if_neg e]
      by_cases e2 : j < n
      · rw [if_pos e2, if_pos (by omega)]
      · rw [if_neg e2, if_neg (by omega)]
theorem mT_skip (i k t : Nat) (xs : List UInt8) (n : Nat) (h : n < xs.length) (h1 : n ≠ i) (h2 : n ≠ k) : mT i k t xs (n + 1) = mT i k t xs n := by
  rw [mT_step i k t xs n h]
  have : md i k t n xs[n] = (mT i k t xs n)[n]'(by rw [mT_len]; exact h) := by rw [mT_at i k t xs n h]; simp [md, h1, h2]
  rw [this, List.set_getElem_self]
theorem mdl_two (i k t : Nat) (xs : List UInt8) (hi : i < xs.length) (hk : k < xs.length) (hne : i ≠ k) : mdl i k t xs = (xs.set i (clrB xs[i] t)).set k (setB xs[k] t) := by
  unfold mdl
  apply List.ext_getElem
  · simp
  · intro j h1 h2
    simp only [List.getElem_mapIdx, List.getElem_set, md]
    by_cases e1 : j = i
    · subst e1; simp [Ne.symm hne]
    · by_cases e2 : j = k
      · subst e2; simp [e1]
      · simp [e1, e2, Ne.symm e1, Ne.symm e2]

set_option maxHeartbeats 1600000 in
theorem model_any (p : ByteArray) (wd sl : Nat) (zw zs : Int) (hzw : zw = (wd : Int)) (hzs : zs = (sl : Int)) (hw : 1 ≤ wd) (hw4 : wd ≤ 4) (hsl : sl < 8 * wd) (hp : p.size ≤ 5000) (w : World) :
    Calls Yba.prog 6 #[.string p, .int .i64 zw, .int .i64 zs] w fun e w' => e = .returned (.string ⟨(mdl (sl / 8) (wd + sl / 8) (sl % 8) p.data.toList).toArray⟩) ∧ Below w.heap.size w w' := by
  subst hzw hzs
  have hmax : maxLen = 9223372036854775807 := by decide
  obtain ⟨cap, w1, hconv, hbr, hgr⟩ := conv_bytes w p (by omega)
  have HB1 : Hid (Below w.heap.size w w1) := (Below.refl _ _).grown hgr (Nat.le_refl _) (fun k e => by cases e)
  have HBR : Hid (BR w1 w.heap.size w.heap.size cap p.data.toList) := hbr
  have HLEN : Hid (p.data.toList.length = p.size) := by simp [Hid]
  obtain ⟨i, hi⟩ : ∃ i, i = sl / 8 := ⟨_, rfl⟩
  obtain ⟨t, ht⟩ : ∃ t, t = sl % 8 := ⟨_, rfl⟩
  obtain ⟨M, hM⟩ : ∃ M : Nat, M = 2 ^ t := ⟨_, rfl⟩
  have hiw : i < wd := by omega
  have ht8 : t < 8 := by omega
  have hq : (sl : Int) / 8 = (i : Int) := by omega
  have hm2 : ((2 : Int) ^ (sl % 8) % 256) = (M : Int) := by rw [mask2 _ (by omega), hM, ht]
  have HC : Hid (∀ x : UInt8, bits .andNot .u8 (x.toNat : Int) (M : Int) = ((clrB x t).toNat : Int)) := fun x => by rw [hM]; exact clr_eq x t ht8
  have HS : Hid (∀ x : UInt8, bits .or .u8 (x.toNat : Int) (M : Int) = ((setB x t).toNat : Int)) := fun x => by rw [hM]; exact set_eq x t ht8
  rw [← ht, ← hi]
  clear hbr hgr hmax hi ht hM ht8
  go_enter Yba.func6, Yba.ntmps6
  go_wp2
  simp only [hm2]
  clear hq hm2 hconv hsl
  generalize hxs : p.data.toList = xs at *
  generalize hg : w.heap.size = g at *
  have HG : Hid (w.heap.size = g) := hg
  have HXS : Hid (p.data.toList = xs) := hxs
  clear hg hxs
  go_loopw [10] (fun j wr => ∃ n : Nat, n ≤ p.size ∧ j = .int .i64 n ∧ BR wr g g cap (mT i (wd + i) t xs n) ∧ Below g w wr) (fun j _ => p.size - (intOf j).toNat)
  case atStart => exact ⟨0, Nat.zero_le _, rfl, by rw [mT_zero]; exact HBR.out, HB1.out⟩
  case round =>
    obtain ⟨n, hn, rfl, hbr, hbel⟩ := hrel
    by_cases hlt : n < p.size
    · have hnx : n < xs.length := by rw [HLEN.out]; exact hlt
      have hc0 := hbr.at_ n (by rw [mT_len]; exact hnx)
      rw [mT_at i (wd + i) t xs n hnx] at hc0
      have hf0 := hbr.fr n (by have := hbr.le; rw [mT_len] at this; omega)
      have hdn : decide ((n : Int) < (p.size : Int)) = true := by simp; omega
      have hst := fun v => hbr.set n (by rw [mT_len]; exact hnx) v
      have h1 := HC.out xs[n]
      have h2 := HS.out xs[n]
      have hgb := hbr.lo
      by_cases e1 : n = i
      · have hN : mT i (wd + i) t xs (n + 1) = (mT i (wd + i) t xs n).set n (clrB xs[n] t) := by
          rw [mT_step i (wd + i) t xs n hnx]
          unfold md
          rw [if_pos e1]
        have HN : Hid (mT i (wd + i) t xs (n + 1) = (mT i (wd + i) t xs n).set n (clrB xs[n] t)) := hN
        clear hN
        have HR : Hid (BR (wr.setCell ⟨g, n, none⟩ (.int .u8 ((clrB xs[n] t).toNat : Int))) g g cap ((mT i (wd + i) t xs n).set n (clrB xs[n] t))) := hst _
        have HBL : Hid (Below g w (wr.setCell ⟨g, n, none⟩ (.int .u8 ((clrB xs[n] t).toNat : Int)))) := hbel.setCell (Nat.le_refl _) _
        have e1a : n ≤ i := by omega
        have e1b : i ≤ n := by omega
        clear e1 hst hbr hbel h2
        generalize xs[n] = x at *
        go_wp2
        go_roundw
        case rel => exact ⟨n + 1, by omega, by go_num, by rw [HN.out]; exact HR.out, HBL.out⟩
        case measure => simp [intOf]; omega
      · by_cases e2 : n = wd + i
        · have hN : mT i (wd + i) t xs (n + 1) = (mT i (wd + i) t xs n).set n (setB xs[n] t) := by
            rw [mT_step i (wd + i) t xs n hnx]
            unfold md
            rw [if_neg e1, if_pos e2]
          have HN : Hid (mT i (wd + i) t xs (n + 1) = (mT i (wd + i) t xs n).set n (setB xs[n] t)) := hN
          clear hN
          have HR : Hid (BR (wr.setCell ⟨g, n, none⟩ (.int .u8 ((setB xs[n] t).toNat : Int))) g g cap ((mT i (wd + i) t xs n).set n (setB xs[n] t))) := hst _
          have HBL : Hid (Below g w (wr.setCell ⟨g, n, none⟩ (.int .u8 ((setB xs[n] t).toNat : Int)))) := hbel.setCell (Nat.le_refl _) _
          have e2a : n ≤ wd + i := by omega
          have e2b : wd + i ≤ n := by omega
          clear e1 e2 hst hbr hbel h1
          generalize xs[n] = x at *
          go_wp2
          go_roundw
          case rel => exact ⟨n + 1, by omega, by go_num, by rw [HN.out]; exact HR.out, HBL.out⟩
          case measure => simp [intOf]; omega
        · have HN : Hid (mT i (wd + i) t xs (n + 1) = mT i (wd + i) t xs n) := mT_skip i (wd + i) t xs n hnx e1 e2
          have e1a : n < i ∨ i < n := by omega
          have e2a : n < wd + i ∨ wd + i < n := by omega
          have e1' : ((n : Int) == (i : Int)) = false := by simp; omega
          have e2' : ((n : Int) == (wd : Int) + (i : Int)) = false := by simp; omega
          clear e1 e2 hst h1 h2
          go_wp2
          go_roundw
          case rel => exact ⟨n + 1, by omega, by go_num, by rw [HN.out]; exact hbr, hbel⟩
          case measure => simp [intOf]; omega
    · have hcs := conv_string wr g g cap _ hbr
      rw [mT_len, HLEN.out, mT_all i (wd + i) t xs n (by rw [HLEN.out]; omega)] at hcs
      clear hbr
      have hge : p.size ≤ n := by omega
      generalize hL : mdl i (wd + i) t xs = L at *
      have HL : Hid (mdl i (wd + i) t xs = L) := hL
      clear hL
      go_wp2
      go_ret
      exact ⟨by rw [HXS.out, HL.out]; rfl, by rw [HG.out]; exact hbel⟩
end Go.Proofs.Ybulkbpak.ex
