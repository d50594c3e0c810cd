import Derived.Test.YbulkboyuReach
namespace Go.Proofs.Ybulkboyu.scc
open Go.ChangeShapes Go.WideShapes Go.ChangeAt Go.RowKit Go.Shelf

/-- the components' numbers, as far as they have been written: k components whole, and m nodes of the next -/
structure Co (cs : List (List Nat)) (k : Nat) (P : List Nat) (co : Nat → Int) : Prop where
  a : ∀ (k' : Nat) c, k' < k → cs[k']? = some c → ∀ j, j ∈ c → co j = (k' : Int)
  b : ∀ j, j ∈ P → co j = (k : Int)
  c : ∀ j, co j ≠ -1 → j ∈ (cs.take k).flatten ∨ j ∈ P
  d : ∀ j, -1 ≤ co j ∧ co j ≤ (k : Int)

theorem Co.start (cs : List (List Nat)) : Co cs 0 [] (fun _ => -1) :=
  ⟨fun k' _ h => by omega, fun j hj => by simp at hj, fun j hj => absurd rfl hj, fun j => by simp⟩

theorem Co.next {cs : List (List Nat)} {k : Nat} {P Q : List Nat} {j : Nat} {co : Nat → Int} (h : Co cs k P co) (hc : cs[k]? = some (P ++ j :: Q)) (hn : cs.flatten.Nodup) : co j = -1 ∧ Co cs k (P ++ [j]) (fun x => if x = j then (k : Int) else co x) := by
  have hsp : cs = cs.take k ++ (P ++ j :: Q) :: cs.drop (k + 1) := by
    have hk := (List.getElem?_eq_some_iff.1 hc).1
    have e := (List.getElem?_eq_some_iff.1 hc).2
    rw [← e, List.getElem_cons_drop, List.take_append_drop]
  have hnj : j ∉ (cs.take k).flatten ∧ j ∉ P := by
    rw [hsp] at hn
    simp only [List.flatten_append, List.flatten_cons, List.append_assoc] at hn
    rw [List.nodup_append] at hn
    obtain ⟨_, h2, h3⟩ := hn
    refine ⟨fun hm => h3 j hm j (by simp) rfl, fun hm => ?_⟩
    rw [List.nodup_append] at h2
    exact h2.2.2 j hm j (by simp) rfl
  have hj : co j = -1 := Classical.byContradiction fun hne => by
    rcases h.c j hne with h1 | h1
    · exact hnj.1 h1
    · exact hnj.2 h1
  refine ⟨hj, fun k' c hk hc' x hx => ?_, fun x hx => ?_, fun x hx => ?_, fun x => ?_⟩
  · have hxj : x ≠ j := fun e => by
      subst e
      refine hnj.1 (List.mem_flatten.2 ⟨c, ?_, hx⟩)
      exact List.mem_of_getElem? (by rw [List.getElem?_take]; rw [if_pos hk]; exact hc')
    show (if x = j then (k : Int) else co x) = _
    rw [if_neg hxj]; exact h.a k' c hk hc' x hx
  · show (if x = j then (k : Int) else co x) = _
    split
    · rfl
    · rename_i e
      rcases List.mem_append.1 hx with hx | hx
      · exact h.b x hx
      · exact absurd (List.mem_singleton.1 hx) e
  · by_cases e : x = j
    · right; simp [e]
    · rw [if_neg e] at hx
      rcases h.c x hx with h1 | h1
      · exact .inl h1
      · exact .inr (List.mem_append_left _ h1)
  · have := h.d x
    show -1 ≤ (if x = j then (k : Int) else co x) ∧ _ ≤ _
    split <;> omega

theorem Co.shut {cs : List (List Nat)} {k : Nat} {P : List Nat} {co : Nat → Int} (h : Co cs k P co) (hc : cs[k]? = some P) : Co cs (k + 1) [] co := by
  refine ⟨fun k' c hk hc' j hj => ?_, fun j hj => by simp at hj, fun j hj => ?_, fun j => ?_⟩
  · by_cases e : k' = k
    · subst e; rw [hc] at hc'; cases hc'; exact h.b j hj
    · exact h.a k' c (by omega) hc' j hj
  · left
    rw [List.take_add_one, hc]
    simp only [Option.toList_some, List.flatten_append, List.flatten_singleton, List.mem_append]
    exact h.c j hj
  · have := h.d j; omega

/-- what the law asks, once all is written -/
theorem co_all {n : Nat} {E : Nat → Nat → Prop} {s : Sg} {co : Nat → Int} (hI : Inv n E s []) (hv : ∀ j, j < n → s.idx j ≠ 0) (h : Co s.cs s.cs.length [] co) (j : Nat) (hj : j < n) : ∃ (k : Nat) (c : List Nat), s.cs[k]? = some c ∧ j ∈ c ∧ co j = (k : Int) := by
  have hst := hI.empty
  rcases (hI.cov j).1 (hv j hj) with h1 | h1
  · rw [hst] at h1; cases h1
  · obtain ⟨c, h2, h3⟩ := List.mem_flatten.1 h1
    obtain ⟨k, h4⟩ := List.getElem?_of_mem h2
    exact ⟨k, c, h4, h3, h.a k c (List.getElem?_eq_some_iff.1 h4).1 h4 j h3⟩

theorem co_edge {n : Nat} {E : Nat → Nat → Prop} {s : Sg} {co : Nat → Int} (hI : Inv n E s []) (hv : ∀ j, j < n → s.idx j ≠ 0) (h : Co s.cs s.cs.length [] co) {u t : Nat} (hu : u < n) (hE : E u t) : co t ≤ co u := by
  obtain ⟨k, c, h1, h2, h3⟩ := co_all hI hv h u hu
  obtain ⟨k', c', h4, h5, h6⟩ := hI.cl k c h1 u h2 t hE
  rw [h3, h.a k' c' (List.getElem?_eq_some_iff.1 h5).1 h5 t h6]; omega

theorem co_reach {n : Nat} {E : Nat → Nat → Prop} {s : Sg} {co : Nat → Int} (hI : Inv n E s []) (hv : ∀ j, j < n → s.idx j ≠ 0) (h : Co s.cs s.cs.length [] co) (hEn : ∀ a b, E a b → b < n) {u t : Nat} (hu : u < n) (hR : R E u t) : co t ≤ co u ∧ t < n := by
  exact R.ind (M := fun x => co x ≤ co u ∧ x < n) ⟨Int.le_refl _, hu⟩ (fun _ _ _ ih e => ⟨Int.le_trans (co_edge hI hv h ih.2 e) ih.1, hEn _ _ e⟩) hR

theorem co_same {n : Nat} {E : Nat → Nat → Prop} {s : Sg} {co : Nat → Int} (hI : Inv n E s []) (hv : ∀ j, j < n → s.idx j ≠ 0) (h : Co s.cs s.cs.length [] co) (hEn : ∀ a b, E a b → b < n) {i j : Nat} (hi : i < n) (hj : j < n) : co i = co j ↔ R E i j ∧ R E j i := by
  constructor
  · intro e
    obtain ⟨k, c, h1, h2, h3⟩ := co_all hI hv h i hi
    obtain ⟨k', c', h4, h5, h6⟩ := co_all hI hv h j hj
    have : k = k' := by omega
    subst this
    rw [h1] at h4; cases h4
    exact ⟨hI.sc c (List.mem_of_getElem? h1) i h2 j h5, hI.sc c (List.mem_of_getElem? h1) j h5 i h2⟩
  · rintro ⟨h1, h2⟩
    have a := (co_reach hI hv h hEn hi h1).1
    have b := (co_reach hI hv h hEn hj h2).1
    omega
end Go.Proofs.Ybulkboyu.scc
