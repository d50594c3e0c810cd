import Derived.Test.YbulkboyuMem
namespace Go.Proofs.Ybulkboyu.handed
open Go.ChangeShapes Go.WideShapes Go.ChangeAt Go.RowKit

/-- the two words behind k ways, at round i of way k. -/
def sAt (x : Nat → Nat) (q f N : Nat) (s : Nat → Nat × Nat) (k i : Nat) : Nat → Nat × Nat := fun j => if j < k then gath (x j) q f (s j) N else if j = k then gath (x k) q f (s k) i else s j
def dAt (l dl : Nat → Bool) (k : Nat) : Nat → Bool := fun j => if j < k then (dl j || l j) else dl j

theorem sAt_self (x : Nat → Nat) (q f N : Nat) (s : Nat → Nat × Nat) (k i : Nat) : sAt x q f N s k i k = gath (x k) q f (s k) i := by simp [sAt]
theorem sAt_skip (x : Nat → Nat) (q f N : Nat) (s : Nat → Nat × Nat) (k i : Nat) (h : (x k).testBit (q + i) = false) (j : Nat) : sAt x q f N s k i j = sAt x q f N s k (i + 1) j := by
  simp [sAt, gath, h]
theorem sAt_lo (x : Nat → Nat) (q f N : Nat) (s : Nat → Nat × Nat) (k i : Nat) (h : (x k).testBit (q + i) = true) (hl : f + i < 64) (j : Nat) :
    (if j = k then ((sAt x q f N s k i k).1 ||| 2 ^ (f + i), (sAt x q f N s k i k).2) else sAt x q f N s k i j) = sAt x q f N s k (i + 1) j := by
  by_cases e : j = k
  · subst e; simp [sAt, gath, h, put, hl]
  · simp [sAt, e]
theorem sAt_hi (x : Nat → Nat) (q f N : Nat) (s : Nat → Nat × Nat) (k i : Nat) (h : (x k).testBit (q + i) = true) (hl : ¬ f + i < 64) (j : Nat) :
    (if j = k then ((sAt x q f N s k i k).1, (sAt x q f N s k i k).2 ||| 2 ^ (f + i - 64)) else sAt x q f N s k i j) = sAt x q f N s k (i + 1) j := by
  by_cases e : j = k
  · subst e; simp [sAt, gath, h, put, hl]
  · simp [sAt, e]
theorem sAt_next (x : Nat → Nat) (q f N : Nat) (s : Nat → Nat × Nat) (k : Nat) (j : Nat) : sAt x q f N s k N j = sAt x q f N s (k + 1) 0 j := by
  simp only [sAt]
  by_cases h1 : j < k
  · rw [if_pos h1, if_pos (by omega)]
  · by_cases h2 : j = k
    · subst h2; simp
    · rw [if_neg h1, if_neg h2, if_neg (by omega)]
      by_cases h3 : j = k + 1
      · subst h3; simp [gath]
      · rw [if_neg h3]

set_option maxHeartbeats 1600000 in
theorem handed_any (B pa pp pf pq T D S c p f q m : Nat) (zc zf zq zm : Int) (hzc : zc = (c : Int)) (hzf : zf = (f : Int)) (hzq : zq = (q : Int)) (hzm : zm = (m : Int)) (x : Nat → Nat) (s : Nat → Nat × Nat) (l dl : Nat → Bool) (w : World)
    (hp : p ≤ 64) (hf : f ≤ 57) (hq : q ≤ 69) (hm : m ≤ 69) (hc : c < 3)
    (hTD : T < D) (hDS : D < S) (hBD : B ≤ D)
    (c1 : w.cell? ⟨pa, 0, none⟩ = some (.pointer (some ⟨pp, 0, none⟩)))
    (c2 : w.cell? ⟨pp, 1, none⟩ = some (.slice (some ⟨pf, 0, none⟩) 3 3))
    (c3 : w.cell? ⟨pf, c, none⟩ = some (.pointer (some ⟨pq, 0, none⟩)))
    (c4 : w.cell? ⟨pq, 1, none⟩ = some (.int .i64 p))
    (hL : Lay w T S c x l) (hx : ∀ j, x j < 18446744073709551616) (hs : ∀ j, (s j).1 < 18446744073709551616 ∧ (s j).2 < 18446744073709551616)
    (hM : Mem B D S w s dl w) :
    Calls Yba.prog 11 #[.pointer (some ⟨pa, 0, none⟩), .pointer (some ⟨D, 0, none⟩), .pointer (some ⟨T, 0, none⟩), .int .i64 zc, .int .i64 zf, .int .i64 zq, .int .i64 zm] w
      fun e w' => e = .returned (.tuple #[]) ∧ Mem B D S w (sAt x q f (min m (p - q)) s 3 0) (dAt l dl 3) w' := by
  subst hzc hzf hzq hzm
  have HX : Hid (∀ j, x j < 18446744073709551616) := hx
  have HS : Hid (∀ j, (s j).1 < 18446744073709551616 ∧ (s j).2 < 18446744073709551616) := hs
  clear hx hs
  go_enter Yba.func11, Yba.ntmps11
  go_wp2
  go_loopw [31] (fun i wr => ∃ k : Nat, k ≤ 3 ∧ i = .int .i64 k ∧ Mem B D S w (sAt x q f (min m (p - q)) s k 0) (dAt l dl k) wr) (fun i _ => 3 - (intOf i).toNat)
  case atStart => exact ⟨0, by omega, rfl, hM.same (fun j _ => by simp [sAt]; intro e; subst e; rfl) (fun j _ => by simp [dAt])⟩
  case round =>
    obtain ⟨k, hk, rfl, hMr⟩ := hrel
    by_cases hlt : k < 3
    · have hLr := hMr.lay hL hTD hDS hc
      have d1 := hLr.t k hlt
      have d2 := hLr.e k hlt
      have d3 := hLr.a k hlt
      have d4 := hLr.l k hlt
      have d6 := hMr.at_ k hlt
      have d7 : wr.cell? ⟨D, k * 2 + 1, none⟩ = some (.bool (dl k)) := by have := hMr.fl k hlt; simpa [dAt] using this
      have f7 := hMr.frD (k * 2 + 1)
      have hM1 : Mem B D S w (sAt x q f (min m (p - q)) s k 0) (dAt l dl (k + 1)) (wr.setCell ⟨D, k * 2 + 1, none⟩ (.bool (dl k || l k))) :=
        (hMr.flag hDS hBD k hlt (dl k || l k)).same (fun _ _ => rfl) (fun j hj => by
          simp only [dAt]
          by_cases e : j = k
          · subst e; simp
          · have : (j < k + 1) = (j < k) := by apply propext; omega
            simp [e, this])
      clear hMr hLr
      have hdk : decide ((k : Int) < 3) = true := by simp; omega
      generalize l k = lk at *
      generalize dl k = dk at *
      have HM1 : Hid (Mem B D S w (sAt x q f (min m (p - q)) s k 0) (dAt l dl (k + 1)) (wr.setCell ⟨D, k * 2 + 1, none⟩ (.bool (dk || lk)))) := hM1
      clear hM1
      cases dk
      all_goals
        go_wp2
        go_region
        go_wp2
        clear d1 d2 d3 d4 d6 d7 f7
        go_loopw [17] (fun i wi => ∃ n : Nat, n ≤ min m (p - q) ∧ i = .int .i64 n ∧ Mem B D S w (sAt x q f (min m (p - q)) s k n) (dAt l dl (k + 1)) wi) (fun i _ => min m (p - q) - (intOf i).toNat)
        case atStart => exact ⟨0, by omega, rfl, HM1.out.drew⟩
        case round =>
          clear HM1
          obtain ⟨n, hn, rfl, hMi⟩ := hrel
          have hLi := hMi.lay hL hTD hDS hc
          have d3 := hLi.a k hlt
          have d5 := hLi.x k hlt
          have d6 := hMi.at_ k hlt
          have d8 := hMi.lo k hlt
          have d9 := hMi.hi k hlt
          have g8 := hMi.frS k 0 hlt
          have g9 := hMi.frS k 1 hlt
          have hgl := gath_lt (x k) q f (s k) (HS.out k).1 (HS.out k).2 n (by omega)
          rw [← sAt_self x q f (min m (p - q)) s k n] at hgl
          by_cases hlt2 : n < min m (p - q)
          · have hn1 : n < m := by omega
            have hn2 : q + n < p := by omega
            cases hb : (x k).testBit (q + n)
            · go_wp2_with (go_at_call 13; refine (has_any _ (q + n) (x k) _ (by omega) _ (by omega) (HX.out k) d5).mono ?_; rintro e w' ⟨rfl, nq, rfl⟩; rw [hb])
              go_roundw
              case rel => exact ⟨n + 1, by omega, by go_num, (hMi.drewN nq).same (fun j _ => sAt_skip x q f _ s k n hb j) (fun _ _ => rfl)⟩
              case measure => simp [intOf]; omega
            · by_cases h64 : f + n < 64
              · go_wp2_with (first | (go_at_call 13; refine (has_any _ (q + n) (x k) _ (by omega) _ (by omega) (HX.out k) d5).mono ?_; rintro e w' ⟨rfl, nq, rfl⟩; rw [hb]) | (go_at_call 14; refine (add_lo _ (f + n) _ _ (by omega) _ h64 hgl.1 (by simpa using d8) (by simpa using g8)).mono ?_; rintro e w' ⟨rfl, rfl⟩))
                go_roundw
                case rel => exact ⟨n + 1, by omega, by go_num, (((hMi.drewN _).setLo hDS hBD k hlt _).drew).same (fun j _ => sAt_lo x q f _ s k n hb h64 j) (fun _ _ => rfl)⟩
                case measure => simp [intOf]; omega
              · go_wp2_with (first | (go_at_call 13; refine (has_any _ (q + n) (x k) _ (by omega) _ (by omega) (HX.out k) d5).mono ?_; rintro e w' ⟨rfl, nq, rfl⟩; rw [hb]) | (go_at_call 14; refine (add_hi _ (f + n) _ _ (by omega) _ (by omega) (by omega) hgl.2 (by simpa using d9) (by simpa using g9)).mono ?_; rintro e w' ⟨rfl, rfl⟩))
                go_roundw
                case rel => exact ⟨n + 1, by omega, by go_num, (((hMi.drewN _).setHi hDS hBD k hlt _).drew).same (fun j _ => sAt_hi x q f _ s k n hb h64 j) (fun _ _ => rfl)⟩
                case measure => simp [intOf]; omega
          · have hnN : n = min m (p - q) := by omega
            have hMe := hMi.same (s' := sAt x q f (min m (p - q)) s (k + 1) 0) (dl' := dAt l dl (k + 1)) (fun j _ => by rw [hnN]; exact sAt_next x q f _ s k j) (fun _ _ => rfl)
            have HMe : Hid (Mem _ _ _ _ _ _ _) := hMe
            have hcase : m ≤ n ∨ p ≤ q + n := by omega
            clear hMe hnN d3 d5 d6 d8 d9 g8 g9 hgl hMi hLi
            by_cases hn1 : n < m
            · have hn2 : p ≤ q + n := by omega
              go_wp2
              go_roundw
              case rel => exact ⟨k + 1, by omega, by go_num, HMe.out⟩
              case measure => simp [intOf]; omega
            · go_wp2
              go_roundw
              case rel => exact ⟨k + 1, by omega, by go_num, HMe.out⟩
              case measure => simp [intOf]; omega
    · obtain rfl : k = 3 := by omega
      go_wp2
      go_end0
      exact ⟨rfl, hMr⟩
end Go.Proofs.Ybulkboyu.handed
