import Derived.Test.YbulkboyuTStep
import Derived.StillTailTactics
import Derived.Deep.LoopGhost
import Derived.BigQuiet
import Derived.Deep.DeepCutAuto
import Derived.Deep.RegionWith
import Derived.Deep.RegionLaw
import Derived.Shelf.Abstract
namespace Go.Proofs.Ybulkboyu.scc
open Go.ChangeShapes Go.WideShapes Go.ChangeAt Go.RowKit Go.Shelf

theorem at_world {c : Code} {P : Program} {Q : Exit → Act → World → Prop} {a : Act} {w : World} (h : ∀ W0, W0 = w → c.wp P Q a W0) : c.wp P Q a w := h w rfl

def white (n : Nat) (idx : Nat → Nat) : Nat := ((List.range n).filter fun j => decide (idx j = 0)).length

def Ed (n : Nat) (el : Nat → Nat) (tg : Nat → Nat → Int) (u v : Nat) : Prop := u < n ∧ v < n ∧ ∃ k, k < el u ∧ tg u k = (v : Int)

abbrev TW (H n : Nat) (nd : Nat → Nat) (b : World) (s : Sg) (aS : Option Addr) (cS : Nat) (aC : Option Addr) (cC : Nat) (cv : List Value) (W : World) : Prop :=
  Tw H n nd b s.cnt s.idx s.low (fun j => decide (j ∈ s.st)) s.st s.cs aS cS aC cC cv W

def Rv (H n : Nat) (nd : Nat → Nat) (el : Nat → Nat) (tg : Nat → Nat → Int) (b : World) (G : List Nat) (s : Sg) (i : Nat) : Ending → World → Prop := fun e W' =>
  e = .returned (.tuple #[]) ∧ ∃ s' aS' cS' aC' cC' cv', TW H n nd b s' aS' cS' aC' cC' cv' W' ∧ Post n (Ed n el tg) G s s' i ∧ s'.cnt + white n s'.idx = s.cnt + white n s.idx

def VSpec (H n : Nat) (nd : Nat → Nat) (el : Nat → Nat) (tg : Nat → Nat → Int) (b : World) (m : Nat) : Prop := ∀ (s : Sg) (G : List Nat) (i : Nat) (W : World) (aS : Option Addr) (cS : Nat) (aC : Option Addr) (cC : Nat) (cv : List Value),
    white n s.idx ≤ m → i < n → s.idx i = 0 → Inv n (Ed n el tg) s G → (∀ x, x ∈ G → R (Ed n el tg) x i) → s.cnt + white n s.idx ≤ 256 → TW H n nd b s aS cS aC cC cv W →
    Calls Yba.prog 12 (#[.int .i64 (i : Int)] ++ vcap H) W (Rv H n nd el tg b G s i)

theorem wset {n i x : Nat} {idx : Nat → Nat} (hi : i < n) (h0 : idx i = 0) (hx : x ≠ 0) : white n (setN idx i x) + 1 = white n idx := by
  have key : ∀ l : List Nat, l.Nodup → i ∈ l → (l.filter fun j => decide (setN idx i x j = 0)).length + 1 = (l.filter fun j => decide (idx j = 0)).length := by
    intro l
    induction l with
    | nil => intro _ h; cases h
    | cons a l ih =>
      intro hn hm
      obtain ⟨h1, h2⟩ := List.nodup_cons.1 hn
      by_cases ha : a = i
      · subst ha
        have e : (l.filter fun j => decide (setN idx a x j = 0)) = l.filter fun j => decide (idx j = 0) := by
          apply List.filter_congr
          intro j hj
          rw [setN_ne _ _ (fun e : j = a => h1 (e ▸ hj))]
        simp [setN_same, hx, h0, e]
      · have hl : i ∈ l := by rcases List.mem_cons.1 hm with e | h; exact absurd e.symm ha; exact h
        have := ih h2 hl
        rw [List.filter_cons, List.filter_cons, setN_ne _ _ ha]
        split
        · simp; omega
        · exact this
  exact key _ List.nodup_range (List.mem_range.2 hi)

theorem wmono {n : Nat} {idx idx' : Nat → Nat} (h : ∀ v, idx v ≠ 0 → idx' v ≠ 0) : white n idx' ≤ white n idx := by
  unfold white
  induction List.range n with
  | nil => simp
  | cons a l ih =>
    rw [List.filter_cons, List.filter_cons]
    by_cases h1 : idx' a = 0
    · have h2 : idx a = 0 := Classical.byContradiction fun hc => h a hc h1
      simp [h1, h2]; exact ih
    · by_cases h2 : idx a = 0
      · simp [h1, h2]; omega
      · simp [h1, h2]; exact ih

theorem wpos {n i : Nat} {idx : Nat → Nat} (hi : i < n) (h0 : idx i = 0) : 1 ≤ white n idx := by
  have := wset hi h0 (x := 1) (by decide); omega

/-- the stack is no longer than the count -/
theorem st_len {l : List Nat} {f : Nat → Nat} {c : Nat} (h : l.Pairwise fun a b => f b < f a) (hb : ∀ v, v ∈ l → f v ≤ c) (hp : ∀ v, v ∈ l → f v ≠ 0) : l.length ≤ c := by
  induction l generalizing c with
  | nil => simp
  | cons a l ih =>
    obtain ⟨h1, h2⟩ := List.pairwise_cons.1 h
    have ha := hb a List.mem_cons_self
    have ha0 := hp a List.mem_cons_self
    have := ih (c := c - 1) h2 (fun v hv => by have := h1 v hv; omega) (fun v hv => hp v (List.mem_cons_of_mem _ hv))
    simp; omega
theorem Inv.len {n : Nat} {E : Nat → Nat → Prop} {s : Sg} {G : List Nat} (h : Inv n E s G) : s.st.length ≤ s.cnt := st_len h.srt (fun v hv => (h.bnd v (h.stn hv)).2) (fun _ hv => h.stn hv)

theorem on_push (st : List Nat) (i : Nat) : setB (fun j => decide (j ∈ st)) i true = fun j => decide (j ∈ i :: st) := by
  funext j
  by_cases h : j = i
  · simp [setB, h]
  · simp [setB, h]
theorem on_pop {st : List Nat} {i : Nat} (hi : i ∉ st) : setB (fun j => decide (j ∈ i :: st)) i false = fun j => decide (j ∈ st) := by
  funext j
  by_cases h : j = i
  · simp [setB, h, hi]
  · simp [setB, h]

structure L1 (H n : Nat) (nd : Nat → Nat) (el : Nat → Nat) (tg : Nat → Nat → Int) (b : World) (G : List Nat) (s0 : Sg) (i : Nat) (v : Value) (g : Nat) (wr : World) : Prop where
  ex : ∃ (k : Nat) (s : Sg) (aS : Option Addr) (cS : Nat) (aC : Option Addr) (cC : Nat) (cv : List Value), k + g = el i ∧ v = .int .i64 (k : Int) ∧ TW H n nd b s aS cS aC cC cv wr ∧ Mid n (Ed n el tg) G s0 i s (fun t => t < n ∧ ∃ k', k' < k ∧ tg i k' = (t : Int)) ∧ s.cnt + white n s.idx = s0.cnt + white n s0.idx

theorem Mid.dmono {n : Nat} {E : Nat → Nat → Prop} {G : List Nat} {s0 s : Sg} {i : Nat} {D D' : Nat → Prop} (h : Mid n E G s0 i s D) (hd : ∀ t, D' t → D t) : Mid n E G s0 i s D' :=
  ⟨h.inv, h.ext, h.idx, h.g0, h.l1, h.st, fun t ht => h.dn t (hd t ht)⟩

theorem min_if (x y : Nat) : (if y < x then (y : Int) else (x : Int)) = ((min x y : Nat) : Int) := by
  split <;> omega

theorem D_step {n k j : Nat} {tg : Nat → Int} (hj : tg k = (j : Int)) (t : Nat) (ht : t < n ∧ ∃ k', k' < k + 1 ∧ tg k' = (t : Int)) : (t < n ∧ ∃ k', k' < k ∧ tg k' = (t : Int)) ∨ t = j := by
  obtain ⟨h1, k', h2, h3⟩ := ht
  by_cases e : k' = k
  · subst e; right; omega
  · exact .inl ⟨h1, k', by omega, h3⟩

def tailN : Nat → Code → Code
  | 0, c => c
  | n + 1, .seq _ b => tailN n b
  | _ + 1, c => c

end Go.Proofs.Ybulkboyu.scc
