import Derived.Test.YbulkbpayLoop
namespace Go.Proofs.Ybulkbpay.un

def be0 : BE := ⟨0, ⟨#[]⟩, -1⟩
def nth (bs : List BE) (j : Nat) : BE := bs[j]?.getD be0
/-- the scope when the first n bindings stand -/
def scF (f : Nat → BE) : Nat → Nat → Int
  | 0 => fun _ => -1
  | n + 1 => upd (scF f n) (f n).p n

theorem scF_congr {f g : Nat → BE} : ∀ n, (∀ j, j < n → f j = g j) → scF f n = scF g n
  | 0, _ => rfl
  | n + 1, h => by
    simp only [scF]
    rw [scF_congr n (fun j hj => h j (by omega)), h n (by omega)]

theorem upd_back (s : Nat → Int) (p : Nat) (x : Int) : upd (upd s p x) p (s p) = s := by
  funext j
  unfold upd
  split
  · rename_i h; rw [h]
  · rfl

theorem scF_lo (f : Nat → BE) : ∀ n p, -1 ≤ scF f n p ∧ scF f n p < (n : Int)
  | 0, _ => by simp [scF]
  | n + 1, p => by
    have := scF_lo f n p
    simp only [scF, upd]
    split <;> omega

theorem unwound_part (f : Nat → BE) (hf : ∀ j, (f j).p < 3 ∧ -1 ≤ (f j).sh ∧ (f j).sh < 5000) (n mark : Nat) (hm : mark ≤ n) (hs : ∀ j, j < n → (f j).sh = scF f j (f j).p) : ∀ i, i ≤ n - mark →
    unwound (scF f n) (upto (fun i => item (fun j => f (mark + j)) (fun j => hf (mark + j)) (n - mark - 1 - i)) i) = scF f (n - i)
  | 0, _ => rfl
  | i + 1, hi => by
    rw [upto_succ, unwound_snoc, unwound_part f hf n mark hm hs i (by omega)]
    have e : mark + (n - mark - 1 - i) = n - (i + 1) := by omega
    show upd (scF f (n - i)) (f (mark + (n - mark - 1 - i))).p (f (mark + (n - mark - 1 - i))).sh = _
    rw [e, hs _ (by omega)]
    have e2 : n - i = (n - (i + 1)) + 1 := by omega
    rw [e2]
    simp only [scF]
    exact upd_back _ _ _

theorem unwound_scF (f : Nat → BE) (hf : ∀ j, (f j).p < 3 ∧ -1 ≤ (f j).sh ∧ (f j).sh < 5000) (n mark : Nat) (hm : mark ≤ n) (hs : ∀ j, j < n → (f j).sh = scF f j (f j).p) :
    unwound (scF f n) (upto (fun i => item (fun j => f (mark + j)) (fun j => hf (mark + j)) (n - mark - 1 - i)) (n - mark)) = scF f mark := by
  rw [unwound_part f hf n mark hm hs _ (Nat.le_refl _), show n - (n - mark) = mark by omega]

structure Coh (os : List OE) (bs : List BE) (ss : List (Nat → Int)) (sc : Nat → Int) : Prop where
  len : ss.length = os.length
  sc : sc = scF (nth bs) bs.length
  b : ∀ j, j < bs.length → (nth bs j).p < 3 ∧ (nth bs j).sh = scF (nth bs) j (nth bs j).p
  o : ∀ (k : Nat) (x : OE), os[k]? = some x → x.mark ≤ bs.length ∧ ss[k]? = some (scF (nth bs) x.mark)
  mono : ∀ (k : Nat) (x y : OE), os[k]? = some x → os[k + 1]? = some y → x.mark ≤ y.mark

theorem coh_start : Coh [] [] [] (fun _ => -1) :=
  ⟨rfl, rfl, fun _ h => absurd h (by simp), fun _ _ h => by simp at h, fun _ _ _ h => by simp at h⟩

theorem snoc_get {α : Type} {l : List α} {a : α} {k : Nat} {x : α} (h : (l ++ [a])[k]? = some x) : l[k]? = some x ∨ (k = l.length ∧ x = a) := by
  rcases Nat.lt_trichotomy k l.length with h1 | h1 | h1
  · left; rwa [List.getElem?_append_left h1] at h
  · right; subst h1; simp at h; exact ⟨rfl, h.symm⟩
  · rw [List.getElem?_eq_none (by simp; omega)] at h; cases h

theorem Coh.push {os : List OE} {bs : List BE} {ss : List (Nat → Int)} {sc : Nat → Int} (h : Coh os bs ss sc) (l : ByteArray) : Coh (os ++ [⟨l, bs.length⟩]) bs (ss ++ [sc]) sc := by
  refine ⟨by simp [h.len], h.sc, h.b, fun k x hx => ?_, fun k x y hx hy => ?_⟩
  · rcases snoc_get hx with h1 | ⟨rfl, rfl⟩
    · obtain ⟨h2, h3⟩ := h.o k x h1
      exact ⟨h2, by rw [List.getElem?_append_left (List.getElem?_eq_some_iff.1 h3).1]; exact h3⟩
    · exact ⟨Nat.le_refl _, by rw [← h.len]; simp [h.sc]⟩
  · rcases snoc_get hx with h1 | ⟨rfl, rfl⟩
    · rcases snoc_get hy with h2 | ⟨_, rfl⟩
      · exact h.mono k x y h1 h2
      · exact (h.o k x h1).1
    · rcases snoc_get hy with h2 | ⟨h3, _⟩
      · have := (List.getElem?_eq_some_iff.1 h2).1; omega
      · omega

theorem nth_left {bs : List BE} {b : BE} {j : Nat} (hj : j < bs.length) : nth (bs ++ [b]) j = nth bs j := by simp [nth, List.getElem?_append_left hj]
theorem nth_last (bs : List BE) (b : BE) : nth (bs ++ [b]) bs.length = b := by simp [nth]

theorem Coh.decl {os : List OE} {bs : List BE} {ss : List (Nat → Int)} {sc : Nat → Int} (h : Coh os bs ss sc) {p : Nat} (hp : p < 3) (sp : ByteArray) : Coh os (bs ++ [⟨p, sp, sc p⟩]) ss (upd sc p bs.length) := by
  have hc : ∀ n, n ≤ bs.length → scF (nth (bs ++ [⟨p, sp, sc p⟩])) n = scF (nth bs) n := fun n hn => scF_congr n fun j hj => nth_left (by omega)
  refine ⟨h.len, ?_, fun j hj => ?_, fun k x hx => ?_, h.mono⟩
  · rw [List.length_append, List.length_singleton]
    simp only [scF]
    rw [hc _ (Nat.le_refl _), nth_last, ← h.sc]
  · simp at hj
    rw [hc j (by omega)]
    by_cases hj' : j < bs.length
    · rw [nth_left hj']; exact h.b j hj'
    · obtain rfl : j = bs.length := by omega
      rw [nth_last]
      exact ⟨hp, by rw [h.sc]⟩
  · obtain ⟨h1, h2⟩ := h.o k x hx
    exact ⟨by simp; omega, by rw [hc _ h1]; exact h2⟩

theorem Coh.hf {os : List OE} {bs : List BE} {ss : List (Nat → Int)} {sc : Nat → Int} (h : Coh os bs ss sc) (hl : bs.length ≤ 2000) (j : Nat) : (nth bs j).p < 3 ∧ -1 ≤ (nth bs j).sh ∧ (nth bs j).sh < 5000 := by
  by_cases hj : j < bs.length
  · obtain ⟨h1, h2⟩ := h.b j hj
    have := scF_lo (nth bs) j (nth bs j).p
    omega
  · have : nth bs j = be0 := by simp [nth, List.getElem?_eq_none (by omega : bs.length ≤ j)]
    rw [this]; simp [be0]

theorem flat_get {α β : Type} (c : α → List β) (m : Nat) (hc : ∀ x, (c x).length = m) : ∀ (l : List α) (k : Nat) (x : α) (i : Nat), l[k]? = some x → i < m → (l.flatMap c)[k * m + i]? = (c x)[i]?
  | [], k, x, i, h, _ => by simp at h
  | a :: l, 0, x, i, h, hi => by
    simp at h; subst h
    rw [List.flatMap_cons, Nat.zero_mul, Nat.zero_add, List.getElem?_append_left (by rw [hc]; exact hi)]
  | a :: l, k + 1, x, i, h, hi => by
    simp at h
    have e : (k + 1) * m + i = (c a).length + (k * m + i) := by rw [hc, Nat.add_mul]; omega
    rw [List.flatMap_cons, e, List.getElem?_append_right (by omega), Nat.add_sub_cancel_left]
    exact flat_get c m hc l k x i h hi

theorem row_facts {w : World} {base : Nat} {e : TypeId} {size n g cap : Nat} {xs : List Value} (h : w.ownsRow base e size (.slice (some ⟨g, 0, none⟩) n cap) n xs) : base ≤ g ∧ g < w.heap.size ∧ n ≤ cap ∧ cap ≤ maxLen ∧ ∀ (i : Nat) v, xs[i]? = some v → w.cell? ⟨g, i, none⟩ = some v := by
  rcases h.2 with ⟨h1, _⟩ | ⟨g', cap', cur, h1, h2, h3, h4, h5, h6, h7⟩
  · cases h1
  · cases h1
    refine ⟨h2, (Array.getElem?_eq_some_iff.1 h3).1, h4, h5, fun i v hv => ?_⟩
    have hlt := (List.getElem?_eq_some_iff.1 hv).1
    rw [← h7] at hv hlt
    rw [List.getElem?_take] at hv
    split at hv
    · simp [World.cell?, h3]; simpa using hv
    · cases hv
end Go.Proofs.Ybulkbpay.un
