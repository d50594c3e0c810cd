import Derived.Test.YbulkboyuRows
namespace Go.Proofs.Ybulkboyu.scc

def Rn (E : Nat → Nat → Prop) : Nat → Nat → Nat → Prop
  | 0, u, v => u = v
  | k + 1, u, w => ∃ v, Rn E k u v ∧ E v w
/-- v can be reached from u -/
def R (E : Nat → Nat → Prop) (u v : Nat) : Prop := ∃ k, Rn E k u v

theorem R.refl {E : Nat → Nat → Prop} (u : Nat) : R E u u := ⟨0, rfl⟩
theorem R.step {E : Nat → Nat → Prop} {u v w : Nat} (h : R E u v) (e : E v w) : R E u w := by
  obtain ⟨k, hk⟩ := h
  exact ⟨k + 1, v, hk, e⟩
theorem R.ind {E : Nat → Nat → Prop} {u : Nat} {M : Nat → Prop} (h0 : M u) (hs : ∀ v w, R E u v → M v → E v w → M w) {t : Nat} (h : R E u t) : M t := by
  obtain ⟨k, hk⟩ := h
  induction k generalizing t with
  | zero => cases hk; exact h0
  | succ k ih =>
    obtain ⟨v, h1, h2⟩ := hk
    exact hs v t ⟨k, h1⟩ (ih h1) h2
theorem R.trans {E : Nat → Nat → Prop} {u v w : Nat} (h : R E u v) (k : R E v w) : R E u w := R.ind (M := fun x => R E u x) h (fun _ _ _ ih e => ih.step e) k
theorem R.one {E : Nat → Nat → Prop} {u v : Nat} (h : E u v) : R E u v := (R.refl u).step h

theorem nod_of {f : Nat → Nat} : ∀ {l : List Nat}, l.Pairwise (fun a b => f b < f a) → l.Nodup
  | [], _ => List.nodup_nil
  | _ :: _, h => List.nodup_cons.2 ⟨fun hm => Nat.lt_irrefl _ ((List.pairwise_cons.1 h).1 _ hm), nod_of (List.pairwise_cons.1 h).2⟩
theorem pw_same {f g : Nat → Nat} : ∀ {l : List Nat}, (∀ v, v ∈ l → g v = f v) → l.Pairwise (fun a b => f b < f a) → l.Pairwise (fun a b => g b < g a)
  | [], _, _ => List.Pairwise.nil
  | _ :: _, hv, h => List.pairwise_cons.2 ⟨fun b hb => by rw [hv _ List.mem_cons_self, hv b (List.mem_cons_of_mem _ hb)]; exact (List.pairwise_cons.1 h).1 b hb, pw_same (fun v hm => hv v (List.mem_cons_of_mem _ hm)) (List.pairwise_cons.1 h).2⟩

structure Sg where
  cnt : Nat
  idx : Nat → Nat
  low : Nat → Nat
  st : List Nat
  cs : List (List Nat)

def setN (f : Nat → Nat) (i x : Nat) : Nat → Nat := fun j => if j = i then x else f j
theorem setN_same (f : Nat → Nat) (i x : Nat) : setN f i x i = x := by simp [setN]
theorem setN_ne (f : Nat → Nat) {i j : Nat} (x : Nat) (h : j ≠ i) : setN f i x j = f j := by simp [setN, h]

structure Inv (n : Nat) (E : Nat → Nat → Prop) (s : Sg) (G : List Nat) : Prop where
  bnd : ∀ v, s.idx v ≠ 0 → v < n ∧ s.idx v ≤ s.cnt
  cov : ∀ v, s.idx v ≠ 0 ↔ v ∈ s.st ∨ v ∈ s.cs.flatten
  dis : ∀ v, v ∈ s.st → v ∉ s.cs.flatten
  nod : s.cs.flatten.Nodup
  srt : s.st.Pairwise fun a b => s.idx b < s.idx a
  ne : ∀ c, c ∈ s.cs → c ≠ []
  sc : ∀ c, c ∈ s.cs → ∀ u, u ∈ c → ∀ v, v ∈ c → R E u v
  cl : ∀ (k : Nat) c, s.cs[k]? = some c → ∀ v, v ∈ c → ∀ t, E v t → ∃ (k' : Nat) (c' : List Nat), k' ≤ k ∧ s.cs[k']? = some c' ∧ t ∈ c'
  gs : ∀ x, x ∈ G → x ∈ s.st
  gr : ∀ x, x ∈ G → ∀ v, v ∈ s.st → s.idx x ≤ s.idx v → R E x v
  gw : ∀ v, v ∈ s.st → ∃ x, x ∈ G ∧ s.idx x ≤ s.idx v ∧ R E v x
  ln : s.cs.length + s.st.length ≤ s.cnt

theorem Inv.stn {n : Nat} {E : Nat → Nat → Prop} {s : Sg} {G : List Nat} (h : Inv n E s G) {v : Nat} (hv : v ∈ s.st) : s.idx v ≠ 0 := (h.cov v).2 (.inl hv)

/-- the beginning of a visit -/
def pushS (s : Sg) (i : Nat) : Sg := { s with cnt := s.cnt + 1, idx := setN s.idx i (s.cnt + 1), low := setN s.low i (s.cnt + 1), st := i :: s.st }

theorem Inv.push {n : Nat} {E : Nat → Nat → Prop} {s : Sg} {G : List Nat} (h : Inv n E s G) {i : Nat} (hi : i < n) (hw : s.idx i = 0) (hG : ∀ x, x ∈ G → R E x i) : Inv n E (pushS s i) (i :: G) := by
  have hne : ∀ v, s.idx v ≠ 0 → v ≠ i := fun v hv e => hv (e ▸ hw)
  have hst : ∀ v, v ∈ s.st → v ≠ i := fun v hv => hne v (h.stn hv)
  have hic : i ∉ s.cs.flatten := fun hc => ((h.cov i).2 (.inr hc)) hw
  have ho : ∀ v, v ≠ i → (pushS s i).idx v = s.idx v := fun v hv => setN_ne _ _ hv
  have hs : (pushS s i).idx i = s.cnt + 1 := setN_same _ _ _
  refine ⟨fun v hv => ?_, fun v => ?_, fun v hv => ?_, h.nod, ?_, h.ne, h.sc, h.cl, fun x hx => ?_, fun x hx v hv hle => ?_, fun v hv => ?_, by have := h.ln; simp only [pushS, List.length_cons]; omega⟩
  · by_cases hvi : v = i
    · subst hvi; rw [hs]; exact ⟨hi, Nat.le_refl _⟩
    · rw [ho v hvi] at hv ⊢
      have := h.bnd v hv
      exact ⟨this.1, Nat.le_succ_of_le this.2⟩
  · by_cases hvi : v = i
    · subst hvi; rw [hs]; simp [pushS]
    · rw [ho v hvi, h.cov v]; simp [pushS, hvi]
  · rcases List.mem_cons.1 hv with rfl | hv
    · exact hic
    · exact h.dis v hv
  · refine List.pairwise_cons.2 ⟨fun b hb => ?_, ?_⟩
    · rw [hs, ho b (hst b hb)]
      have := (h.bnd b (h.stn hb)).2
      omega
    · exact pw_same (fun v hv => ho v (hst v hv)) h.srt
  · rcases List.mem_cons.1 hx with rfl | hx
    · exact List.mem_cons_self
    · exact List.mem_cons_of_mem _ (h.gs x hx)
  · rcases List.mem_cons.1 hx with rfl | hx
    · rcases List.mem_cons.1 hv with rfl | hv
      · exact .refl _
      · rw [hs, ho v (hst v hv)] at hle
        have := (h.bnd v (h.stn hv)).2
        omega
    · rcases List.mem_cons.1 hv with hvi | hv
      · rw [hvi]; exact hG x hx
      · rw [ho x (hst x (h.gs x hx)), ho v (hst v hv)] at hle
        exact h.gr x hx v hv hle
  · rcases List.mem_cons.1 hv with rfl | hv
    · exact ⟨v, List.mem_cons_self, Nat.le_refl _, .refl _⟩
    · obtain ⟨x, h1, h2, h3⟩ := h.gw v hv
      refine ⟨x, List.mem_cons_of_mem _ h1, ?_, h3⟩
      rw [ho x (hst x (h.gs x h1)), ho v (hst v hv)]; exact h2

/-- what a visit leaves of the old state -/
structure Ext (s0 s : Sg) : Prop where
  idx : ∀ v, s0.idx v ≠ 0 → s.idx v = s0.idx v
  low : ∀ v, s0.idx v ≠ 0 → s.low v = s0.low v
  new : ∀ v, s0.idx v = 0 → s.idx v ≠ 0 → s0.cnt < s.idx v
  cnt : s0.cnt ≤ s.cnt

theorem Ext.vis {s0 s : Sg} (h : Ext s0 s) {v : Nat} (hv : s0.idx v ≠ 0) : s.idx v ≠ 0 := by rw [h.idx v hv]; exact hv
theorem Ext.refl (s : Sg) : Ext s s := ⟨fun _ _ => rfl, fun _ _ => rfl, fun _ h h' => absurd h h', Nat.le_refl _⟩
theorem Ext.trans {a b c : Sg} (h : Ext a b) (k : Ext b c) : Ext a c where
  idx v hv := (k.idx v (h.vis hv)).trans (h.idx v hv)
  low v hv := (k.low v (h.vis hv)).trans (h.low v hv)
  new v hv hc := by
    by_cases hb : b.idx v = 0
    · have := k.new v hb hc; have := h.cnt; omega
    · have := h.new v hv hb; rw [k.idx v hb]; exact this
  cnt := Nat.le_trans h.cnt k.cnt

/-- after a visit of i, out of s0 -/
structure Post (n : Nat) (E : Nat → Nat → Prop) (G : List Nat) (s0 s : Sg) (i : Nat) : Prop where
  inv : Inv n E s G
  ext : Ext s0 s
  vis : s.idx i ≠ 0
  st : ∃ S, s.st = S ++ s0.st ∧ (∀ v, v ∈ S → s0.idx v = 0) ∧ (∀ v, v ∈ S → ∀ t, E v t → s.idx t ≠ 0 ∧ (t ∈ s.st → s.low i ≤ s.idx t)) ∧ ((S = [] ∧ s0.cnt < s.low i) ∨ ∃ t, t ∈ s.st ∧ s.idx t = s.low i ∧ R E i t)

/-- in the midst of the visit of i: the targets D are done -/
structure Mid (n : Nat) (E : Nat → Nat → Prop) (G : List Nat) (s0 : Sg) (i : Nat) (s : Sg) (D : Nat → Prop) : Prop where
  inv : Inv n E s (i :: G)
  ext : Ext s0 s
  idx : s.idx i = s0.cnt + 1
  g0 : ∀ x, x ∈ G → x ∈ s0.st
  l1 : ∃ t, t ∈ s.st ∧ s.idx t = s.low i ∧ s.idx t ≤ s.idx i ∧ R E i t
  st : ∃ S, s.st = S ++ i :: s0.st ∧ (∀ v, v ∈ S → s0.idx v = 0) ∧ (∀ v, v ∈ S → ∀ t, E v t → s.idx t ≠ 0 ∧ (t ∈ s.st → s.low i ≤ s.idx t))
  dn : ∀ t, D t → s.idx t ≠ 0 ∧ (t ∈ s.st → s.low i ≤ s.idx t)

theorem Mid.start {n : Nat} {E : Nat → Nat → Prop} {s : Sg} {G : List Nat} (h : Inv n E s G) {i : Nat} (hi : i < n) (hw : s.idx i = 0) (hG : ∀ x, x ∈ G → R E x i) : Mid n E G s i (pushS s i) (fun _ => False) := by
  refine ⟨h.push hi hw hG, ⟨fun v hv => setN_ne _ _ (fun e => hv (e ▸ hw)), fun v hv => setN_ne _ _ (fun e => hv (e ▸ hw)), fun v hv hv' => ?_, Nat.le_succ _⟩, setN_same _ _ _, h.gs, ⟨i, List.mem_cons_self, ?_, Nat.le_refl _, .refl _⟩, ⟨[], rfl, fun _ h => absurd h List.not_mem_nil, fun _ h => absurd h List.not_mem_nil⟩, fun _ h => h.elim⟩
  · by_cases hvi : v = i
    · subst hvi; rw [show (pushS s v).idx v = s.cnt + 1 from setN_same _ _ _]; omega
    · rw [show (pushS s i).idx v = s.idx v from setN_ne _ _ hvi] at hv'; exact absurd hv hv'
  · exact (setN_same _ _ _).trans (setN_same _ _ _).symm

theorem Mid.ist {n : Nat} {E : Nat → Nat → Prop} {G : List Nat} {s0 s : Sg} {i : Nat} {D : Nat → Prop} (h : Mid n E G s0 i s D) : i ∈ s.st := h.inv.gs i List.mem_cons_self

/-- every grey node reaches i -/
theorem Mid.reach {n : Nat} {E : Nat → Nat → Prop} {G : List Nat} {s0 s : Sg} {i : Nat} {D : Nat → Prop} (h : Mid n E G s0 i s D) (h0 : Inv n E s0 G) : ∀ x, x ∈ i :: G → R E x i := by
  intro x hx
  refine h.inv.gr x hx i h.ist ?_
  rcases List.mem_cons.1 hx with rfl | hx
  · exact Nat.le_refl _
  · have h1 := h0.stn (h0.gs x hx)
    rw [h.ext.idx x h1, h.idx]
    have := (h0.bnd x h1).2
    omega

theorem Mid.low_le {n : Nat} {E : Nat → Nat → Prop} {G : List Nat} {s0 s : Sg} {i : Nat} {D : Nat → Prop} (h : Mid n E G s0 i s D) : s.low i ≤ s.idx i := by
  obtain ⟨t, _, h2, h3, _⟩ := h.l1; omega

/-- low i is lowered -/
theorem Inv.relow {n : Nat} {E : Nat → Nat → Prop} {s : Sg} {G : List Nat} (h : Inv n E s G) (l : Nat → Nat) : Inv n E { s with low := l } G :=
  ⟨h.bnd, h.cov, h.dis, h.nod, h.srt, h.ne, h.sc, h.cl, h.gs, h.gr, h.gw, h.ln⟩

/-- a target that has been visited: it is on the stack, or in a component -/
theorem Mid.seen {n : Nat} {E : Nat → Nat → Prop} {G : List Nat} {s0 s : Sg} {i : Nat} {D : Nat → Prop} (h : Mid n E G s0 i s D) {j : Nat} (hj : s.idx j ≠ 0) (hs : j ∉ s.st) : Mid n E G s0 i s (fun t => D t ∨ t = j) :=
  ⟨h.inv, h.ext, h.idx, h.g0, h.l1, h.st, fun t ht => ht.elim (h.dn t) fun e => by subst e; exact ⟨hj, fun hc => absurd hc hs⟩⟩

theorem Mid.lower {n : Nat} {E : Nat → Nat → Prop} {G : List Nat} {s0 s : Sg} {i : Nat} {D : Nat → Prop} (h : Mid n E G s0 i s D) (hw : s0.idx i = 0) {x : Nat} (hx : s.low i ≤ x ∨ ∃ t, t ∈ s.st ∧ s.idx t = x ∧ R E i t) : Mid n E G s0 i { s with low := setN s.low i (min (s.low i) x) } D := by
  have hl : setN s.low i (min (s.low i) x) i = min (s.low i) x := setN_same _ _ _
  have hle : min (s.low i) x ≤ s.low i := Nat.min_le_left _ _
  refine ⟨h.inv.relow _, ⟨h.ext.idx, fun v hv => (setN_ne _ _ (fun e : v = i => hv (e ▸ hw))).trans (h.ext.low v hv), h.ext.new, h.ext.cnt⟩, h.idx, h.g0, ?_, ?_, ?_⟩
  · obtain ⟨t, h1, h2, h3, h4⟩ := h.l1
    show ∃ t, t ∈ s.st ∧ s.idx t = setN s.low i (min (s.low i) x) i ∧ s.idx t ≤ s.idx i ∧ R E i t
    rw [hl]
    by_cases hlx : s.low i ≤ x
    · exact ⟨t, h1, by rw [Nat.min_eq_left hlx]; exact h2, h3, h4⟩
    · rcases hx with hx | ⟨t', k1, k2, k3⟩
      · exact absurd hx hlx
      · exact ⟨t', k1, by rw [Nat.min_eq_right (by omega)]; exact k2, by omega, k3⟩
  · obtain ⟨S, h1, h2, h3⟩ := h.st
    refine ⟨S, h1, h2, fun v hv t ht => ⟨(h3 v hv t ht).1, fun hs => ?_⟩⟩
    show setN s.low i (min (s.low i) x) i ≤ s.idx t
    rw [hl]; exact Nat.le_trans hle ((h3 v hv t ht).2 hs)
  · intro t ht
    refine ⟨(h.dn t ht).1, fun hs => ?_⟩
    show setN s.low i (min (s.low i) x) i ≤ s.idx t
    rw [hl]; exact Nat.le_trans hle ((h.dn t ht).2 hs)

/-- a target on the stack -/
theorem Mid.onst {n : Nat} {E : Nat → Nat → Prop} {G : List Nat} {s0 s : Sg} {i : Nat} {D : Nat → Prop} (h : Mid n E G s0 i s D) (hw : s0.idx i = 0) {j : Nat} (hE : E i j) (hs : j ∈ s.st) :
    Mid n E G s0 i { s with low := setN s.low i (min (s.low i) (s.idx j)) } (fun t => D t ∨ t = j) := by
  have h1 := h.lower hw (x := s.idx j) (.inr ⟨j, hs, rfl, .one hE⟩)
  refine ⟨h1.inv, h1.ext, h1.idx, h1.g0, h1.l1, h1.st, fun t ht => ht.elim (h1.dn t) fun e => ?_⟩
  subst e
  refine ⟨h.inv.stn hs, fun _ => ?_⟩
  show setN s.low i (min (s.low i) (s.idx t)) i ≤ s.idx t
  rw [setN_same]; exact Nat.min_le_right _ _

/-- a child has been visited -/
theorem Mid.child {n : Nat} {E : Nat → Nat → Prop} {G : List Nat} {s0 s s' : Sg} {i : Nat} {D : Nat → Prop} (h : Mid n E G s0 i s D) (hw : s0.idx i = 0) {j : Nat} (hE : E i j) (hj : s.idx j = 0) (hp : Post n E (i :: G) s s' j) :
    Mid n E G s0 i { s' with low := setN s'.low i (min (s'.low i) (s'.low j)) } (fun t => D t ∨ t = j) := by
  have hi : s.idx i ≠ 0 := h.inv.stn h.ist
  have ei : s'.idx i = s.idx i := hp.ext.idx i hi
  have el : s'.low i = s.low i := hp.ext.low i hi
  have hij := hp.ext.new j hj hp.vis
  have hic := (h.inv.bnd i hi).2
  obtain ⟨S', q1, q2, q3, q4⟩ := hp.st
  have hst : ∀ t, s.idx t ≠ 0 → t ∈ s'.st → t ∈ s.st := fun t ht hs => by
    rw [q1] at hs
    rcases List.mem_append.1 hs with hs | hs
    · exact absurd (q2 t hs) ht
    · exact hs
  have hll := h.low_le
  have hl : setN s'.low i (min (s'.low i) (s'.low j)) i = min (s.low i) (s'.low j) := by rw [setN_same, el]
  refine ⟨hp.inv.relow _, ⟨(h.ext.trans hp.ext).idx, fun v hv => (setN_ne _ _ (fun e : v = i => hv (e ▸ hw))).trans ((h.ext.trans hp.ext).low v hv), (h.ext.trans hp.ext).new, (h.ext.trans hp.ext).cnt⟩, ei.trans h.idx, h.g0, ?_, ?_, ?_⟩
  · show ∃ t, t ∈ s'.st ∧ s'.idx t = setN s'.low i (min (s'.low i) (s'.low j)) i ∧ s'.idx t ≤ s'.idx i ∧ R E i t
    rw [hl, ei]
    obtain ⟨t, k1, k2, k3, k4⟩ := h.l1
    have old : s.low i ≤ s'.low j → ∃ t, t ∈ s'.st ∧ s'.idx t = min (s.low i) (s'.low j) ∧ s'.idx t ≤ s.idx i ∧ R E i t := fun hle =>
      ⟨t, by rw [q1]; exact List.mem_append_right _ k1, by rw [hp.ext.idx t (h.inv.stn k1), Nat.min_eq_left hle]; exact k2, by rw [hp.ext.idx t (h.inv.stn k1)]; exact k3, k4⟩
    rcases q4 with ⟨_, q4⟩ | ⟨t', m1, m2, m3⟩
    · exact old (by omega)
    · by_cases hle : s.low i ≤ s'.low j
      · exact old hle
      · exact ⟨t', m1, by rw [Nat.min_eq_right (by omega)]; exact m2, by omega, (R.one hE).trans m3⟩
  · obtain ⟨S, k1, k2, k3⟩ := h.st
    refine ⟨S' ++ S, by show s'.st = _; rw [q1, k1, List.append_assoc], fun v hv => ?_, fun v hv t ht => ?_⟩
    · rcases List.mem_append.1 hv with hv | hv
      · exact Classical.byContradiction fun hc => h.ext.vis hc (q2 v hv)
      · exact k2 v hv
    · show s'.idx t ≠ 0 ∧ (t ∈ s'.st → setN s'.low i (min (s'.low i) (s'.low j)) i ≤ s'.idx t)
      rw [hl]
      rcases List.mem_append.1 hv with hv | hv
      · obtain ⟨m1, m2⟩ := q3 v hv t ht
        exact ⟨m1, fun hs => Nat.le_trans (Nat.min_le_right _ _) (m2 hs)⟩
      · obtain ⟨m1, m2⟩ := k3 v hv t ht
        exact ⟨hp.ext.vis m1, fun hs => by rw [hp.ext.idx t m1]; exact Nat.le_trans (Nat.min_le_left _ _) (m2 (hst t m1 hs))⟩
  · intro t ht
    show s'.idx t ≠ 0 ∧ (t ∈ s'.st → setN s'.low i (min (s'.low i) (s'.low j)) i ≤ s'.idx t)
    rw [hl]
    rcases ht with ht | rfl
    · obtain ⟨m1, m2⟩ := h.dn t ht
      exact ⟨hp.ext.vis m1, fun hs => by rw [hp.ext.idx t m1]; exact Nat.le_trans (Nat.min_le_left _ _) (m2 (hst t m1 hs))⟩
    · exact ⟨hp.vis, fun _ => by have := Nat.min_le_left (s.low i) (s'.low t); omega⟩

/-- the end of a visit: i stays -/
theorem Mid.stay {n : Nat} {E : Nat → Nat → Prop} {G : List Nat} {s0 s : Sg} {i : Nat} (h : Mid n E G s0 i s (E i)) (hw : s0.idx i = 0) (hne : s.low i ≠ s.idx i) : Post n E G s0 s i := by
  obtain ⟨t, k1, k2, k3, k4⟩ := h.l1
  obtain ⟨S, m1, m2, m3⟩ := h.st
  have hgw : ∃ x, x ∈ G ∧ s.idx x < s.idx i ∧ R E i x := by
    obtain ⟨x, a1, a2, a3⟩ := h.inv.gw t k1
    rcases List.mem_cons.1 a1 with rfl | a1
    · omega
    · exact ⟨x, a1, by omega, k4.trans a3⟩
  refine ⟨⟨h.inv.bnd, h.inv.cov, h.inv.dis, h.inv.nod, h.inv.srt, h.inv.ne, h.inv.sc, h.inv.cl, fun x hx => h.inv.gs x (List.mem_cons_of_mem _ hx), fun x hx => h.inv.gr x (List.mem_cons_of_mem _ hx), fun v hv => ?_, h.inv.ln⟩, h.ext, h.inv.stn h.ist, ⟨S ++ [i], by rw [m1]; simp, fun v hv => ?_, fun v hv => ?_, .inr ⟨t, k1, k2, k4⟩⟩⟩
  · obtain ⟨x, a1, a2, a3⟩ := h.inv.gw v hv
    rcases List.mem_cons.1 a1 with rfl | a1
    · obtain ⟨y, b1, b2, b3⟩ := hgw
      exact ⟨y, b1, by omega, a3.trans b3⟩
    · exact ⟨x, a1, a2, a3⟩
  · rcases List.mem_append.1 hv with hv | hv
    · exact m2 v hv
    · rw [List.mem_singleton.1 hv]; exact hw
  · rcases List.mem_append.1 hv with hv | hv
    · exact m3 v hv
    · rw [List.mem_singleton.1 hv]; exact h.dn

/-- the end of a visit: i and all above it leave the stack as a component -/
theorem Mid.emit {n : Nat} {E : Nat → Nat → Prop} {G : List Nat} {s0 s : Sg} {i : Nat} (h : Mid n E G s0 i s (E i)) (h0 : Inv n E s0 G) (he : s.low i = s.idx i) {S : List Nat} (hS : s.st = S ++ i :: s0.st) : Post n E G s0 { s with st := s0.st, cs := s.cs ++ [S ++ [i]] } i := by
  obtain ⟨S', m1, m2, m3⟩ := h.st
  have hSS : S' = S := by
    have := m1.symm.trans hS
    exact List.append_cancel_right this
  subst hSS
  have hsrt := h.inv.srt
  rw [hS, List.pairwise_append] at hsrt
  obtain ⟨p1, p2, p3⟩ := hsrt
  have hup : ∀ v, v ∈ S' → s.idx i < s.idx v := fun v hv => p3 v hv i List.mem_cons_self
  have hdown : ∀ v, v ∈ s0.st → s.idx v < s.idx i := fun v hv => (List.pairwise_cons.1 p2).1 v hv
  have hsub : ∀ v, v ∈ s0.st → v ∈ s.st := fun v hv => by rw [hS]; exact List.mem_append_right _ (List.mem_cons_of_mem _ hv)
  have hcs : ∀ v, v ∈ S' ++ [i] → v ∈ s.st ∧ s.idx i ≤ s.idx v := fun v hv => by
    rcases List.mem_append.1 hv with hv | hv
    · exact ⟨by rw [hS]; exact List.mem_append_left _ hv, Nat.le_of_lt (hup v hv)⟩
    · rw [List.mem_singleton.1 hv]; exact ⟨h.ist, Nat.le_refl _⟩
  have hback : ∀ v, v ∈ s.st → s.idx i ≤ s.idx v → v ∈ S' ++ [i] := fun v hv hle => by
    rw [hS] at hv
    rcases List.mem_append.1 hv with hv | hv
    · exact List.mem_append_left _ hv
    · rcases List.mem_cons.1 hv with rfl | hv
      · exact List.mem_append_right _ (List.mem_singleton.2 rfl)
      · have := hdown v hv; omega
  have hst : ∀ v, v ∈ s.st ↔ v ∈ S' ++ [i] ∨ v ∈ s0.st := fun v => by rw [hS]; simp [or_assoc]
  have hnd : s.st.Nodup := nod_of h.inv.srt
  have hnd2 : (S' ++ [i]).Nodup ∧ ∀ v, v ∈ S' ++ [i] → v ∉ s0.st := by
    rw [show s.st = (S' ++ [i]) ++ s0.st by rw [hS]; simp] at hnd
    rw [List.nodup_append] at hnd
    exact ⟨hnd.1, fun v hv hv' => hnd.2.2 v hv v hv' rfl⟩
  have hi : ∀ v, v ∈ S' ++ [i] → R E i v ∧ R E v i := fun v hv => by
    obtain ⟨b1, b2⟩ := hcs v hv
    refine ⟨h.inv.gr i List.mem_cons_self v b1 b2, ?_⟩
    obtain ⟨x, a1, a2, a3⟩ := h.inv.gw v b1
    exact a3.trans (h.reach h0 x a1)
  have hdn : ∀ v, v ∈ S' ++ [i] → ∀ t, E v t → s.idx t ≠ 0 ∧ (t ∈ s.st → s.low i ≤ s.idx t) := fun v hv => by
    rcases List.mem_append.1 hv with hv | hv
    · exact m3 v hv
    · rw [List.mem_singleton.1 hv]; exact h.dn
  refine ⟨⟨h.inv.bnd, fun v => ?_, fun v hv => ?_, ?_, ?_, fun c hc => ?_, fun c hc => ?_, fun k c hk => ?_, h.g0, fun x hx v hv => h.inv.gr x (List.mem_cons_of_mem _ hx) v (hsub v hv), fun v hv => ?_, by have := h.inv.ln; rw [hS] at this; simp at this ⊢; omega⟩, ⟨h.ext.idx, h.ext.low, h.ext.new, h.ext.cnt⟩, h.inv.stn h.ist, ⟨[], rfl, fun _ h => absurd h List.not_mem_nil, fun _ h => absurd h List.not_mem_nil, .inl ⟨rfl, ?_⟩⟩⟩
  · show s.idx v ≠ 0 ↔ v ∈ s0.st ∨ v ∈ (s.cs ++ [S' ++ [i]]).flatten
    rw [h.inv.cov v, hst v, List.flatten_append, List.flatten_singleton]
    generalize S' ++ [i] = c
    rw [List.mem_append]
    constructor
    · rintro ((h | h) | h)
      · exact .inr (.inr h)
      · exact .inl h
      · exact .inr (.inl h)
    · rintro (h | h | h)
      · exact .inl (.inr h)
      · exact .inr h
      · exact .inl (.inl h)
  · show v ∉ (s.cs ++ [S' ++ [i]]).flatten
    rw [List.flatten_append, List.mem_append, List.flatten_singleton]
    rintro (hc | hc)
    · exact h.inv.dis v (hsub v hv) hc
    · exact hnd2.2 v hc hv
  · show (s.cs ++ [S' ++ [i]]).flatten.Nodup
    rw [List.flatten_append, List.flatten_singleton, List.nodup_append]
    exact ⟨h.inv.nod, hnd2.1, fun a ha b hb e => h.inv.dis b (hcs b hb).1 (e ▸ ha)⟩
  · exact (List.pairwise_cons.1 p2).2
  · rcases List.mem_append.1 hc with hc | hc
    · exact h.inv.ne c hc
    · rw [List.mem_singleton.1 hc]; simp
  · rcases List.mem_append.1 hc with hc | hc
    · exact h.inv.sc c hc
    · rw [List.mem_singleton.1 hc]
      exact fun u hu v hv => (hi u hu).2.trans (hi v hv).1
  · show ∀ v, v ∈ c → ∀ t, E v t → ∃ (k' : Nat) (c' : List Nat), k' ≤ k ∧ (s.cs ++ [S' ++ [i]])[k']? = some c' ∧ t ∈ c'
    change (s.cs ++ [S' ++ [i]])[k]? = some c at hk
    intro v hv t ht
    rcases Nat.lt_trichotomy k s.cs.length with hkl | hkl | hkl
    · rw [List.getElem?_append_left hkl] at hk
      obtain ⟨k', c', b1, b2, b3⟩ := h.inv.cl k c hk v hv t ht
      exact ⟨k', c', b1, by rw [List.getElem?_append_left (by omega)]; exact b2, b3⟩
    · subst hkl
      simp at hk
      subst hk
      have hv' : v ∈ S' ++ [i] := by simpa using hv
      obtain ⟨b1, b2⟩ := hdn v hv' t ht
      rcases (h.inv.cov t).1 b1 with b | b
      · exact ⟨s.cs.length, S' ++ [i], Nat.le_refl _, by simp, hback t b (by rw [← he]; exact b2 b)⟩
      · obtain ⟨c', d1, d2⟩ := List.mem_flatten.1 b
        obtain ⟨k', d3⟩ := List.getElem?_of_mem d1
        have := (List.getElem?_eq_some_iff.1 d3).1
        exact ⟨k', c', by omega, by rw [List.getElem?_append_left this]; exact d3, d2⟩
    · rw [List.getElem?_eq_none (by simp; omega)] at hk; cases hk
  · obtain ⟨x, a1, a2, a3⟩ := h.inv.gw v (hsub v hv)
    rcases List.mem_cons.1 a1 with rfl | a1
    · have := hdown v hv; omega
    · exact ⟨x, a1, a2, a3⟩
  · show s0.cnt < s.low i
    rw [he, h.idx]; omega

/-- when all is done -/
theorem Inv.empty {n : Nat} {E : Nat → Nat → Prop} {s : Sg} (h : Inv n E s []) : s.st = [] := by
  cases hs : s.st with
  | nil => rfl
  | cons a l =>
    obtain ⟨x, hx, _⟩ := h.gw a (by rw [hs]; exact List.mem_cons_self)
    cases hx
end Go.Proofs.Ybulkboyu.scc
