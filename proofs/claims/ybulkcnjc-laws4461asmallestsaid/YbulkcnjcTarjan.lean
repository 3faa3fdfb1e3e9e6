/-
  Tarjan's strongly connected components, in plain words: no Go in sight.
-/
namespace Go.Proofs.Ybulkcnjc.Tj

/-- a graph as edge lists: the arcs of v are the places st v .. st (v + 1) of sc -/
structure G where
  n : Nat
  st : Nat → Nat
  sc : Nat → Nat

def G.E (g : G) (u w : Nat) : Prop := ∃ c, g.st u ≤ c ∧ c < g.st (u + 1) ∧ g.sc c = w

/-- every arc of a node leads to a node -/
def G.Ok (g : G) : Prop := ∀ u c, u < g.n → g.st u ≤ c → c < g.st (u + 1) → g.sc c < g.n

def reachN (g : G) : Nat → Nat → Nat → Prop
  | 0, u, w => u = w
  | k + 1, u, w => ∃ x, g.E u x ∧ reachN g k x w

def Reach (g : G) (u w : Nat) : Prop := ∃ k, reachN g k u w

theorem Reach.refl (g : G) (u : Nat) : Reach g u u := ⟨0, rfl⟩
theorem Reach.edge {g : G} {u w : Nat} (h : g.E u w) : Reach g u w := ⟨1, w, h, rfl⟩

theorem reachN_trans {g : G} : ∀ (j k : Nat) (u v w : Nat), reachN g j u v → reachN g k v w → reachN g (j + k) u w
  | 0, k, u, v, w, h1, h2 => by
    simp only [reachN] at h1
    subst h1
    simpa using h2
  | j + 1, k, u, v, w, h1, h2 => by
    obtain ⟨x, hx, hr⟩ := h1
    rw [show j + 1 + k = (j + k) + 1 by omega]
    exact ⟨x, hx, reachN_trans j k x v w hr h2⟩

theorem Reach.trans {g : G} {u v w : Nat} (h1 : Reach g u v) (h2 : Reach g v w) : Reach g u w := by
  obtain ⟨j, hj⟩ := h1
  obtain ⟨k, hk⟩ := h2
  exact ⟨j + k, reachN_trans j k u v w hj hk⟩

/-- a set that the arcs do not leave is not left by any path -/
theorem Reach.stays {g : G} {S : Nat → Prop} (hS : ∀ u w, S u → g.E u w → S w) {u w : Nat} (h : Reach g u w) (hu : S u) : S w := by
  obtain ⟨k, hk⟩ := h
  induction k generalizing u with
  | zero => simp only [reachN] at hk; subst hk; exact hu
  | succ k ih =>
    obtain ⟨x, hx, hr⟩ := hk
    exact ih (hS u x hu hx) hr

/-! ### the state -/

def upd {α : Type} (f : Nat → α) (v : Nat) (x : α) : Nat → α := fun u => if u = v then x else f u
theorem upd_same {α : Type} (f : Nat → α) (v : Nat) (x : α) : upd f v x v = x := by simp [upd]
theorem upd_other {α : Type} (f : Nat → α) {v u : Nat} (x : α) (h : u ≠ v) : upd f v x u = f u := by simp [upd, h]

structure S where
  ord : Nat → Nat
  low : Nat → Nat
  on : Nat → Bool
  path : List (Nat × Nat)
  opn : List Nat
  cnt : Nat
  comps : List (List Nat)

def S.init : S := { ord := fun _ => 0, low := fun _ => 0, on := fun _ => false, path := [], opn := [], cnt := 0, comps := [] }

def S.visit (g : G) (s : S) (v : Nat) : S :=
  { s with ord := upd s.ord v (s.cnt + 1), low := upd s.low v (s.cnt + 1), on := upd s.on v true, path := s.path ++ [(v, g.st v)], opn := s.opn ++ [v], cnt := s.cnt + 1 }

/-- the path's nodes -/
def S.pv (s : S) : List Nat := s.path.map Prod.fst

/-- the last path node at or below u -/
def S.Own (s : S) (u p : Nat) : Prop := p ∈ s.pv ∧ s.ord p ≤ s.ord u ∧ ∀ q ∈ s.pv, s.ord q ≤ s.ord u → s.ord q ≤ s.ord p

def S.closed (g : G) (s : S) (v : Nat) : Prop := v < g.n ∧ s.ord v ≠ 0 ∧ v ∉ s.opn

/-- one component, whole -/
def IsComp (g : G) (C : List Nat) : Prop := C.Nodup ∧ ∀ u, u ∈ C → u < g.n ∧ ∀ y, y < g.n → (y ∈ C ↔ Reach g u y ∧ Reach g y u)

structure Inv (g : G) (s : S) : Prop where
  lt : ∀ v ∈ s.opn, v < g.n
  inc : s.opn.Pairwise (fun a b => s.ord a < s.ord b)
  onIff : ∀ v, s.on v = true ↔ v ∈ s.opn
  le : ∀ v, s.ord v ≤ s.cnt
  pos : ∀ v ∈ s.opn, 0 < s.ord v
  sub : ∀ v ∈ s.pv, v ∈ s.opn
  pinc : s.pv.Pairwise (fun a b => s.ord a < s.ord b)
  preach : s.pv.Pairwise (fun a b => Reach g a b)
  shut : ∀ u w, s.closed g u → g.E u w → s.closed g w
  lowLe : ∀ v ∈ s.opn, s.low v ≤ s.ord v
  lowAt : ∀ v ∈ s.opn, ∃ x ∈ s.opn, s.ord x = s.low v ∧ Reach g v x
  lowLt : ∀ v ∈ s.opn, v ∉ s.pv → s.low v < s.ord v
  own : ∀ v ∈ s.opn, ∃ p, s.Own v p ∧ Reach g p v
  done : ∀ v ∈ s.opn, v ∉ s.pv → ∀ w, g.E v w → s.ord w ≠ 0 ∧ (w ∈ s.opn → ∀ p, s.Own v p → s.low p ≤ s.ord w)
  part : ∀ v c, (v, c) ∈ s.path → g.st v ≤ c ∧ c ≤ g.st (v + 1) ∧ ∀ c', g.st v ≤ c' → c' < c → s.ord (g.sc c') ≠ 0 ∧ (g.sc c' ∈ s.opn → s.low v ≤ s.ord (g.sc c'))
  comps : ∀ C ∈ s.comps, IsComp g C
  found : ∀ v, s.closed g v ↔ ∃ C ∈ s.comps, v ∈ C

theorem inj_of_inc {f : Nat → Nat} : ∀ {l : List Nat}, l.Pairwise (fun a b => f a < f b) → ∀ a ∈ l, ∀ b ∈ l, f a = f b → a = b
  | [], _, a, ha, _, _, _ => by cases ha
  | x :: l, h, a, ha, b, hb, e => by
    rw [List.pairwise_cons] at h
    rcases List.mem_cons.1 ha with rfl | ha'
    · rcases List.mem_cons.1 hb with rfl | hb'
      · rfl
      · have := h.1 b hb'; omega
    · rcases List.mem_cons.1 hb with rfl | hb'
      · have := h.1 a ha'; omega
      · exact inj_of_inc h.2 a ha' b hb' e

theorem Inv.inj {g : G} {s : S} (h : Inv g s) {a b : Nat} (ha : a ∈ s.opn) (hb : b ∈ s.opn) (e : s.ord a = s.ord b) : a = b := inj_of_inc h.inc a ha b hb e

theorem Inv.own_unique {g : G} {s : S} (h : Inv g s) {u p q : Nat} (hp : s.Own u p) (hq : s.Own u q) : p = q := by
  have h1 := hp.2.2 q hq.1 hq.2.1
  have h2 := hq.2.2 p hp.1 hp.2.1
  exact h.inj (h.sub p hp.1) (h.sub q hq.1) (by omega)

theorem Inv.nodup {g : G} {s : S} (h : Inv g s) : s.opn.Nodup :=
  List.pairwise_iff_getElem.2 (fun i j hi hj hij e => by have hab := List.pairwise_iff_getElem.1 h.inc i j hi hj hij; rw [e] at hab; omega)

theorem inv_init (g : G) : Inv g S.init where
  lt := by simp [S.init]
  inc := by simp [S.init]
  onIff := by simp [S.init]
  le := by simp [S.init]
  pos := by simp [S.init]
  sub := by simp [S.init, S.pv]
  pinc := by simp [S.init, S.pv]
  preach := by simp [S.init, S.pv]
  shut := by intro u w h; simp [S.init, S.closed] at h
  lowLe := by simp [S.init]
  lowAt := by simp [S.init]
  lowLt := by simp [S.init]
  own := by simp [S.init]
  done := by simp [S.init]
  part := by simp [S.init]
  comps := by simp [S.init]
  found := by simp [S.init, S.closed]

theorem pv_visit (g : G) (s : S) (v : Nat) : (s.visit g v).pv = s.pv ++ [v] := by simp [S.visit, S.pv]

/-- the visit of a node that was not reached yet -/
theorem inv_visit {g : G} {s : S} (h : Inv g s) {v : Nat} (hv : v < g.n) (hst : g.st v ≤ g.st (v + 1)) (h0 : s.ord v = 0) (hreach : ∀ p ∈ s.pv, Reach g p v) : Inv g (s.visit g v) := by
  have hnot : v ∉ s.opn := fun hm => by have := h.pos v hm; omega
  have hne : ∀ u, u ∈ s.opn → u ≠ v := fun u hu e => hnot (e ▸ hu)
  have ho : ∀ u, u ≠ v → (s.visit g v).ord u = s.ord u := fun u hu => upd_other _ _ hu
  have hov : (s.visit g v).ord v = s.cnt + 1 := upd_same _ _ _
  have hl : ∀ u, u ≠ v → (s.visit g v).low u = s.low u := fun u hu => upd_other _ _ hu
  have hlv : (s.visit g v).low v = s.cnt + 1 := upd_same _ _ _
  have hop : (s.visit g v).opn = s.opn ++ [v] := rfl
  have hpv := pv_visit g s v
  have hnp : v ∉ s.pv := fun hm => hnot (h.sub v hm)
  have hnz : ∀ u, s.ord u ≠ 0 → u ≠ v := fun u hu e => hu (e ▸ h0)
  have hcl : ∀ u, (s.visit g v).closed g u ↔ s.closed g u := by
    intro u
    unfold S.closed
    rw [hop]
    by_cases e : u = v
    · subst e
      constructor
      · rintro ⟨_, _, h3⟩; exact absurd (by simp) h3
      · rintro ⟨_, h2, _⟩; exact absurd h0 h2
    · rw [ho u e]
      simp [e]
  have hown : ∀ u p, u ∈ s.opn → ((s.visit g v).Own u p ↔ s.Own u p) := by
    intro u p hu
    have hle := h.le u
    unfold S.Own
    rw [hpv, ho u (hne u hu)]
    constructor
    · rintro ⟨h1, h2, h3⟩
      rcases List.mem_append.1 h1 with h1 | h1
      · have hpne : p ≠ v := fun e => hnp (e ▸ h1)
        rw [ho p hpne] at h2 h3
        refine ⟨h1, h2, fun q hq hqu => ?_⟩
        have hqne : q ≠ v := fun e => hnp (e ▸ hq)
        have := h3 q (List.mem_append.2 (Or.inl hq)) (by rw [ho q hqne]; exact hqu)
        rwa [ho q hqne] at this
      · simp at h1
        subst h1
        rw [hov] at h2
        omega
    · rintro ⟨h1, h2, h3⟩
      have hpne : p ≠ v := fun e => hnp (e ▸ h1)
      rw [ho p hpne]
      refine ⟨List.mem_append.2 (Or.inl h1), h2, fun q hq hqu => ?_⟩
      rcases List.mem_append.1 hq with hq | hq
      · have hqne : q ≠ v := fun e => hnp (e ▸ hq)
        rw [ho q hqne] at hqu ⊢
        exact h3 q hq hqu
      · simp at hq
        subst hq
        rw [hov] at hqu
        omega
  refine { lt := ?_, inc := ?_, onIff := ?_, le := ?_, pos := ?_, sub := ?_, pinc := ?_, preach := ?_, shut := ?_, lowLe := ?_, lowAt := ?_, lowLt := ?_, own := ?_, done := ?_, part := ?_, comps := h.comps, found := ?_ }
  · intro u hu
    rw [hop] at hu
    rcases List.mem_append.1 hu with hu | hu
    · exact h.lt u hu
    · simp at hu; subst hu; exact hv
  · rw [hop, List.pairwise_append]
    refine ⟨?_, by simp, ?_⟩
    · refine h.inc.imp_of_mem ?_
      intro a b ha hb hab
      rw [ho a (hne a ha), ho b (hne b hb)]
      exact hab
    · intro a ha b hb
      simp at hb
      subst hb
      rw [ho a (hne a ha), hov]
      have := h.le a
      omega
  · intro u
    rw [hop]
    by_cases e : u = v
    · subst e
      simp [S.visit, upd_same]
    · have : (s.visit g v).on u = s.on u := upd_other _ _ e
      rw [this, h.onIff u]
      simp [e]
  · intro u
    show _ ≤ s.cnt + 1
    by_cases e : u = v
    · subst e; rw [hov]; exact Nat.le_refl _
    · rw [ho u e]; have := h.le u; omega
  · intro u hu
    rw [hop] at hu
    rcases List.mem_append.1 hu with hu | hu
    · rw [ho u (hne u hu)]; exact h.pos u hu
    · simp at hu; subst hu; rw [hov]; omega
  · intro u hu
    rw [hpv] at hu
    rw [hop]
    rcases List.mem_append.1 hu with hu | hu
    · exact List.mem_append.2 (Or.inl (h.sub u hu))
    · exact List.mem_append.2 (Or.inr hu)
  · rw [hpv, List.pairwise_append]
    refine ⟨?_, by simp, ?_⟩
    · refine h.pinc.imp_of_mem ?_
      intro a b ha hb hab
      rw [ho a (hne a (h.sub a ha)), ho b (hne b (h.sub b hb))]
      exact hab
    · intro a ha b hb
      simp at hb
      subst hb
      rw [ho a (hne a (h.sub a ha)), hov]
      have := h.le a
      omega
  · rw [hpv, List.pairwise_append]
    refine ⟨h.preach, by simp, ?_⟩
    intro a ha b hb
    simp at hb
    subst hb
    exact hreach a ha
  · intro u w hu he
    rw [hcl] at hu ⊢
    exact h.shut u w hu he
  · intro u hu
    rw [hop] at hu
    rcases List.mem_append.1 hu with hu | hu
    · rw [ho u (hne u hu), hl u (hne u hu)]; exact h.lowLe u hu
    · simp at hu; subst hu; rw [hov, hlv]; exact Nat.le_refl _
  · intro u hu
    rw [hop] at hu ⊢
    rcases List.mem_append.1 hu with hu | hu
    · obtain ⟨x, hx, hxo, hxr⟩ := h.lowAt u hu
      exact ⟨x, List.mem_append.2 (Or.inl hx), by rw [ho x (hne x hx), hl u (hne u hu)]; exact hxo, hxr⟩
    · simp at hu; subst hu
      exact ⟨u, by simp, by rw [hov, hlv], Reach.refl _ _⟩
  · intro u hu hnu
    rw [hop] at hu
    rw [hpv] at hnu
    rcases List.mem_append.1 hu with hu | hu
    · rw [ho u (hne u hu), hl u (hne u hu)]
      exact h.lowLt u hu (fun hm => hnu (List.mem_append.2 (Or.inl hm)))
    · exact absurd (List.mem_append.2 (Or.inr hu)) hnu
  · intro u hu
    rw [hop] at hu
    rcases List.mem_append.1 hu with hu | hu
    · obtain ⟨p, hp, hr⟩ := h.own u hu
      exact ⟨p, (hown u p hu).2 hp, hr⟩
    · simp at hu; subst hu
      refine ⟨u, ⟨by rw [hpv]; simp, Nat.le_refl _, fun q _ hq => hq⟩, Reach.refl _ _⟩
  · intro u hu hnu w he
    rw [hop] at hu ⊢
    rw [hpv] at hnu
    rcases List.mem_append.1 hu with hu | hu
    · obtain ⟨d1, d2⟩ := h.done u hu (fun hm => hnu (List.mem_append.2 (Or.inl hm))) w he
      have hwne := hnz w d1
      rw [ho w hwne]
      refine ⟨d1, fun hw p hp => ?_⟩
      have hp' := (hown u p hu).1 hp
      have hpne : p ≠ v := fun e => hnp (e ▸ hp'.1)
      rw [hl p hpne]
      rcases List.mem_append.1 hw with hw | hw
      · exact d2 hw p hp'
      · simp at hw; exact absurd hw hwne
    · exact absurd (List.mem_append.2 (Or.inr hu)) hnu
  · intro u c hm
    have hm' : (u, c) ∈ s.path ++ [(v, g.st v)] := hm
    rcases List.mem_append.1 hm' with hm' | hm'
    · obtain ⟨a1, a2, a3⟩ := h.part u c hm'
      have hup : u ∈ s.pv := List.mem_map.2 ⟨(u, c), hm', rfl⟩
      have hune : u ≠ v := fun e => hnp (e ▸ hup)
      refine ⟨a1, a2, fun c' hc1 hc2 => ?_⟩
      obtain ⟨b1, b2⟩ := a3 c' hc1 hc2
      have hwne := hnz _ b1
      rw [ho _ hwne, hl u hune]
      refine ⟨b1, fun hw => ?_⟩
      rw [hop] at hw
      rcases List.mem_append.1 hw with hw | hw
      · exact b2 hw
      · simp at hw; exact absurd hw hwne
    · simp at hm'
      obtain ⟨rfl, rfl⟩ := hm'
      exact ⟨Nat.le_refl _, hst, fun c' hc1 hc2 => by omega⟩
  · intro u
    rw [hcl]
    exact h.found u


/-- a path node's low goes down -/
theorem inv_low {g : G} {s : S} (h : Inv g s) {v m : Nat} (hv : v ∈ s.pv) (hm : m ≤ s.low v) (hx : ∃ x ∈ s.opn, s.ord x = m ∧ Reach g v x) :
    Inv g { s with low := upd s.low v m } := by
  have hle : ∀ u, (upd s.low v m) u ≤ s.low u := by
    intro u
    by_cases e : u = v
    · subst e; rw [upd_same]; exact hm
    · rw [upd_other _ _ e]; exact Nat.le_refl _
  refine { lt := h.lt, inc := h.inc, onIff := h.onIff, le := h.le, pos := h.pos, sub := h.sub, pinc := h.pinc, preach := h.preach, shut := h.shut, lowLe := ?_, lowAt := ?_, lowLt := ?_, own := h.own, done := ?_, part := ?_, comps := h.comps, found := h.found }
  · intro u hu
    exact Nat.le_trans (hle u) (h.lowLe u hu)
  · intro u hu
    by_cases e : u = v
    · subst e
      obtain ⟨x, h1, h2, h3⟩ := hx
      exact ⟨x, h1, by rw [h2]; exact (upd_same _ _ _).symm, h3⟩
    · obtain ⟨x, h1, h2, h3⟩ := h.lowAt u hu
      exact ⟨x, h1, by rw [h2]; exact (upd_other _ _ e).symm, h3⟩
  · intro u hu hnu
    exact Nat.lt_of_le_of_lt (hle u) (h.lowLt u hu hnu)
  · intro u hu hnu w he
    obtain ⟨d1, d2⟩ := h.done u hu hnu w he
    exact ⟨d1, fun hw p hp => Nat.le_trans (hle p) (d2 hw p hp)⟩
  · intro u c hm
    obtain ⟨a1, a2, a3⟩ := h.part u c hm
    refine ⟨a1, a2, fun c' hc1 hc2 => ?_⟩
    obtain ⟨b1, b2⟩ := a3 c' hc1 hc2
    exact ⟨b1, fun hw => Nat.le_trans (hle u) (b2 hw)⟩

/-- a frame goes on past an arc whose end has been reached -/
theorem inv_cursor {g : G} {s : S} (h : Inv g s) {fs gs : List (Nat × Nat)} {v c : Nat} (hp : s.path = fs ++ (v, c) :: gs) (hc : c < g.st (v + 1))
    (h1 : s.ord (g.sc c) ≠ 0) (h2 : g.sc c ∈ s.opn → s.low v ≤ s.ord (g.sc c)) : Inv g { s with path := fs ++ (v, c + 1) :: gs } := by
  have hpv : ({ s with path := fs ++ (v, c + 1) :: gs } : S).pv = s.pv := by simp [S.pv, hp]
  have hown : ∀ u p, ({ s with path := fs ++ (v, c + 1) :: gs } : S).Own u p ↔ s.Own u p := by
    intro u p
    unfold S.Own
    rw [hpv]
  refine { lt := h.lt, inc := h.inc, onIff := h.onIff, le := h.le, pos := h.pos, sub := ?_, pinc := ?_, preach := ?_, shut := h.shut, lowLe := h.lowLe, lowAt := h.lowAt, lowLt := ?_, own := ?_, done := ?_, part := ?_, comps := h.comps, found := h.found }
  · rw [hpv]; exact h.sub
  · rw [hpv]; exact h.pinc
  · rw [hpv]; exact h.preach
  · rw [hpv]; exact h.lowLt
  · intro u hu
    obtain ⟨p, hp, hr⟩ := h.own u hu
    exact ⟨p, (hown u p).2 hp, hr⟩
  · rw [hpv]
    intro u hu hnu w he
    obtain ⟨d1, d2⟩ := h.done u hu hnu w he
    exact ⟨d1, fun hw p hp => d2 hw p ((hown u p).1 hp)⟩
  · intro u d hm
    have hm' : (u, d) ∈ fs ++ (v, c + 1) :: gs := hm
    rw [List.mem_append, List.mem_cons] at hm'
    rcases hm' with hm' | hm' | hm'
    · exact h.part u d (by rw [hp]; exact List.mem_append.2 (Or.inl hm'))
    · simp at hm'
      obtain ⟨rfl, rfl⟩ := hm'
      obtain ⟨a1, a2, a3⟩ := h.part u c (by rw [hp]; simp)
      refine ⟨by omega, by omega, fun c' hc1 hc2 => ?_⟩
      by_cases e : c' = c
      · subst e; exact ⟨h1, h2⟩
      · exact a3 c' hc1 (by omega)
    · exact h.part u d (by rw [hp]; simp [hm'])

/-- the top of the path -/
theorem Inv.top {g : G} {s : S} (h : Inv g s) {fs : List (Nat × Nat)} {v c : Nat} (hp : s.path = fs ++ [(v, c)]) :
    v ∈ s.opn ∧ v ∈ s.pv ∧ (∀ q ∈ s.pv, s.ord q ≤ s.ord v) ∧ (∀ q ∈ s.pv, Reach g q v) ∧ s.pv = fs.map Prod.fst ++ [v] := by
  have hpv : s.pv = fs.map Prod.fst ++ [v] := by simp [S.pv, hp]
  have hv : v ∈ s.pv := by rw [hpv]; simp
  refine ⟨h.sub v hv, hv, ?_, ?_, hpv⟩
  · intro q hq
    have := h.pinc
    rw [hpv, List.pairwise_append] at this
    rw [hpv] at hq
    rcases List.mem_append.1 hq with hq | hq
    · exact Nat.le_of_lt (this.2.2 q hq v (by simp))
    · simp at hq; subst hq; exact Nat.le_refl _
  · intro q hq
    have := h.preach
    rw [hpv, List.pairwise_append] at this
    rw [hpv] at hq
    rcases List.mem_append.1 hq with hq | hq
    · exact this.2.2 q hq v (by simp)
    · simp at hq; subst hq; exact Reach.refl _ _

/-- the owner of whatever lies at or above the top is the top -/
theorem Inv.own_top {g : G} {s : S} (h : Inv g s) {fs : List (Nat × Nat)} {v c : Nat} (hp : s.path = fs ++ [(v, c)]) {u : Nat} (hu : s.ord v ≤ s.ord u) : s.Own u v := by
  obtain ⟨_, h2, h3, _, _⟩ := h.top hp
  exact ⟨h2, hu, fun q hq _ => h3 q hq⟩

/-- every open node reaches a path node at or below it -/
theorem Inv.reachPath {g : G} {s : S} (h : Inv g s) : ∀ (k : Nat) (u : Nat), s.ord u ≤ k → u ∈ s.opn → ∃ q ∈ s.pv, s.ord q ≤ s.ord u ∧ Reach g u q
  | 0, u, hk, hu => by have := h.pos u hu; omega
  | k + 1, u, hk, hu => by
    by_cases hp : u ∈ s.pv
    · exact ⟨u, hp, Nat.le_refl _, Reach.refl _ _⟩
    · have hlt := h.lowLt u hu hp
      obtain ⟨x, hx, hxo, hxr⟩ := h.lowAt u hu
      obtain ⟨q, hq, hqo, hqr⟩ := h.reachPath k x (by omega) hx
      exact ⟨q, hq, by omega, hxr.trans hqr⟩

/-- an open node at or above the top is in the top's component -/
theorem Inv.bothWays {g : G} {s : S} (h : Inv g s) {fs : List (Nat × Nat)} {v c : Nat} (hp : s.path = fs ++ [(v, c)]) {u : Nat} (hu : u ∈ s.opn) (hle : s.ord v ≤ s.ord u) : Reach g v u ∧ Reach g u v := by
  obtain ⟨_, _, _, h4, _⟩ := h.top hp
  constructor
  · obtain ⟨p, hown, hr⟩ := h.own u hu
    have := h.own_unique hown (h.own_top hp hle)
    subst this
    exact hr
  · obtain ⟨q, hq, _, hr⟩ := h.reachPath _ u (Nat.le_refl _) hu
    exact hr.trans (h4 q hq)

/-- the top leaves the path, its component not complete -/
theorem inv_pop {g : G} {s : S} (h : Inv g s) {fs : List (Nat × Nat)} {p d v : Nat} (hp : s.path = (fs ++ [(p, d)]) ++ [(v, g.st (v + 1))])
    (hlow : s.low p ≤ s.low v) (hlt : s.low v < s.ord v) : Inv g { s with path := fs ++ [(p, d)] } := by
  obtain ⟨t1, t2, t3, t4, t5⟩ := h.top hp
  have hpv' : ({ s with path := fs ++ [(p, d)] } : S).pv = fs.map Prod.fst ++ [p] := by simp [S.pv]
  have hpv : s.pv = (fs.map Prod.fst ++ [p]) ++ [v] := by rw [t5]; simp
  have hpin : p ∈ s.pv := by rw [hpv]; simp
  have hpinc := h.pinc
  rw [hpv, List.pairwise_append] at hpinc
  have hpreach := h.preach
  rw [hpv, List.pairwise_append] at hpreach
  have hpv_lt : s.ord p < s.ord v := hpinc.2.2 p (by simp) v (by simp)
  have hmax : ∀ q ∈ fs.map Prod.fst ++ [p], s.ord q ≤ s.ord p := by
    intro q hq
    have := hpinc.1
    rw [List.pairwise_append] at this
    rcases List.mem_append.1 hq with hq | hq
    · exact Nat.le_of_lt (this.2.2 q hq p (by simp))
    · simp at hq; subst hq; exact Nat.le_refl _
  have hnv : v ∉ fs.map Prod.fst ++ [p] := fun hm => by have := hmax v hm; omega
  have hfull := (h.part v (g.st (v + 1)) (by rw [hp]; simp)).2.2
  -- the owner behind the pop
  have hown : ∀ u q, ({ s with path := fs ++ [(p, d)] } : S).Own u q → (s.ord v ≤ s.ord u → q = p) ∧ (s.ord u < s.ord v → s.Own u q) := by
    intro u q ⟨o1, o2, o3⟩
    rw [hpv'] at o1 o3
    have o1' : q ∈ s.pv := by rw [hpv]; exact List.mem_append.2 (Or.inl o1)
    constructor
    · intro hle
      have h1 := o3 p (by simp) (by show s.ord p ≤ s.ord u; omega)
      have h2 := hmax q o1
      exact h.inj (h.sub q o1') (h.sub p hpin) (Nat.le_antisymm h2 h1)
    · intro hul
      refine ⟨o1', o2, fun r hr hru => ?_⟩
      rw [hpv] at hr
      rcases List.mem_append.1 hr with hr | hr
      · exact o3 r hr hru
      · simp at hr; subst hr; omega
  refine { lt := h.lt, inc := h.inc, onIff := h.onIff, le := h.le, pos := h.pos, sub := ?_, pinc := ?_, preach := ?_, shut := h.shut, lowLe := h.lowLe, lowAt := h.lowAt, lowLt := ?_, own := ?_, done := ?_, part := ?_, comps := h.comps, found := h.found }
  · rw [hpv']
    intro u hu
    exact h.sub u (by rw [hpv]; exact List.mem_append.2 (Or.inl hu))
  · rw [hpv']; exact hpinc.1
  · rw [hpv']; exact hpreach.1
  · rw [hpv']
    intro u hu hnu
    by_cases e : u = v
    · subst e; exact hlt
    · refine h.lowLt u hu ?_
      rw [hpv]
      intro hm
      rcases List.mem_append.1 hm with hm | hm
      · exact hnu hm
      · simp at hm; exact e hm
  · intro u hu
    obtain ⟨q, hq, hr⟩ := h.own u hu
    by_cases hle : s.ord v ≤ s.ord u
    · have := h.own_unique hq (h.own_top hp hle)
      subst this
      refine ⟨p, ⟨by rw [hpv']; simp, by show s.ord p ≤ s.ord u; omega, ?_⟩, (t4 p hpin).trans hr⟩
      rw [hpv']
      intro r hr' _
      exact hmax r hr'
    · have hqne : q ≠ v := fun e => by have := hq.2.1; rw [e] at this; omega
      have hq1 := hq.1
      rw [hpv] at hq1
      refine ⟨q, ⟨?_, hq.2.1, ?_⟩, hr⟩
      · rw [hpv']
        rcases List.mem_append.1 hq1 with hq1 | hq1
        · exact hq1
        · simp at hq1; exact absurd hq1 hqne
      · rw [hpv']
        intro r hr' hru
        exact hq.2.2 r (by rw [hpv]; exact List.mem_append.2 (Or.inl hr')) hru
  · rw [hpv']
    intro u hu hnu w he
    by_cases e : u = v
    · subst e
      obtain ⟨c, hc1, hc2, hc3⟩ := he
      obtain ⟨b1, b2⟩ := hfull c hc1 hc2
      rw [hc3] at b1 b2
      refine ⟨b1, fun hw q hq => ?_⟩
      have := (hown u q hq).1 (Nat.le_refl _)
      subst this
      exact Nat.le_trans hlow (b2 hw)
    · have hnu' : u ∉ s.pv := by
        rw [hpv]
        intro hm
        rcases List.mem_append.1 hm with hm | hm
        · exact hnu hm
        · simp at hm; exact e hm
      obtain ⟨d1, d2⟩ := h.done u hu hnu' w he
      refine ⟨d1, fun hw q hq => ?_⟩
      by_cases hle : s.ord v ≤ s.ord u
      · have := (hown u q hq).1 hle
        subst this
        exact Nat.le_trans hlow (d2 hw v (h.own_top hp hle))
      · exact d2 hw q ((hown u q hq).2 (by omega))
  · intro u c hm
    exact h.part u c (by rw [hp]; exact List.mem_append.2 (Or.inl hm))

/-- a path node that is not the root of a component has a parent -/
theorem Inv.has_parent {g : G} {s : S} (h : Inv g s) {v c : Nat} (hp : s.path = [(v, c)]) : s.low v = s.ord v := by
  have hp' : s.path = [] ++ [(v, c)] := by simpa using hp
  obtain ⟨t1, t2, _, _, t5⟩ := h.top hp'
  obtain ⟨x, hx, hxo, _⟩ := h.lowAt v t1
  obtain ⟨q, hq, _⟩ := h.own x hx
  have h1 := hq.1
  rw [t5] at h1
  simp at h1
  have h2 := hq.2.1
  rw [h1] at h2
  have h3 := h.lowLe v t1
  omega

/-- where nothing is on the path nothing is open -/
theorem Inv.none_open {g : G} {s : S} (h : Inv g s) (hp : s.path = []) : s.opn = [] := by
  cases ho : s.opn with
  | nil => rfl
  | cons a l =>
    obtain ⟨q, hq, _⟩ := h.own a (by rw [ho]; simp)
    have := hq.1
    simp [S.pv, hp] at this

/-- turn off -/
def offAll (on : Nat → Bool) (l : List Nat) : Nat → Bool := fun u => if u ∈ l then false else on u

/-- the top is the root of a complete component -/
theorem inv_found {g : G} {s : S} (h : Inv g s) (hok : g.Ok) {fs : List (Nat × Nat)} {v : Nat} {a b : List Nat} (hp : s.path = fs ++ [(v, g.st (v + 1))])
    (heq : s.low v = s.ord v) (ho : s.opn = a ++ v :: b) :
    Inv g { s with path := fs, opn := a, on := offAll s.on (v :: b), comps := s.comps ++ [v :: b] } := by
  obtain ⟨t1, t2, t3, t4, t5⟩ := h.top hp
  have hinc := h.inc
  rw [ho, List.pairwise_append] at hinc
  have ha_lt : ∀ x ∈ a, s.ord x < s.ord v := fun x hx => hinc.2.2 x hx v (by simp)
  have hb_gt : ∀ x ∈ b, s.ord v < s.ord x := by
    have := hinc.2.1
    rw [List.pairwise_cons] at this
    exact this.1
  have hC : ∀ x, x ∈ v :: b ↔ x ∈ s.opn ∧ s.ord v ≤ s.ord x := by
    intro x
    rw [ho]
    constructor
    · intro hx
      refine ⟨List.mem_append.2 (Or.inr hx), ?_⟩
      rcases List.mem_cons.1 hx with rfl | hx
      · exact Nat.le_refl _
      · exact Nat.le_of_lt (hb_gt x hx)
    · rintro ⟨hx, hle⟩
      rcases List.mem_append.1 hx with hx | hx
      · have := ha_lt x hx; omega
      · exact hx
  have hA : ∀ x, x ∈ a ↔ x ∈ s.opn ∧ s.ord x < s.ord v := by
    intro x
    rw [ho]
    constructor
    · intro hx
      exact ⟨List.mem_append.2 (Or.inl hx), ha_lt x hx⟩
    · rintro ⟨hx, hlt⟩
      rcases List.mem_append.1 hx with hx | hx
      · exact hx
      · rcases List.mem_cons.1 hx with rfl | hx
        · omega
        · have := hb_gt x hx; omega
  have hpinc := h.pinc
  rw [t5, List.pairwise_append] at hpinc
  have hpreach := h.preach
  rw [t5, List.pairwise_append] at hpreach
  have hfs_lt : ∀ q ∈ fs.map Prod.fst, s.ord q < s.ord v := fun q hq => hpinc.2.2 q hq v (by simp)
  have hpv' : ({ s with path := fs, opn := a, on := offAll s.on (v :: b), comps := s.comps ++ [v :: b] } : S).pv = fs.map Prod.fst := rfl
  have hfull := (h.part v (g.st (v + 1)) (by rw [hp]; simp)).2.2
  -- no arc leaves the component and what is closed
  have hleave : ∀ u, u ∈ v :: b → ∀ w, g.E u w → w < g.n ∧ s.ord w ≠ 0 ∧ (w ∈ s.opn → w ∈ v :: b) := by
    intro u hu w he
    have hu2 := (hC u).1 hu
    have hwn : w < g.n := by
      obtain ⟨c, hc1, hc2, hc3⟩ := he
      rw [← hc3]
      exact hok u c (h.lt u hu2.1) hc1 hc2
    by_cases e : u = v
    · subst e
      obtain ⟨c, hc1, hc2, hc3⟩ := he
      obtain ⟨b1, b2⟩ := hfull c hc1 hc2
      rw [hc3] at b1 b2
      exact ⟨hwn, b1, fun hw => (hC w).2 ⟨hw, by have := b2 hw; omega⟩⟩
    · have hnu : u ∉ s.pv := by
        rw [t5]
        intro hm
        rcases List.mem_append.1 hm with hm | hm
        · have := hfs_lt u hm; omega
        · simp at hm; exact e hm
      obtain ⟨d1, d2⟩ := h.done u hu2.1 hnu w he
      exact ⟨hwn, d1, fun hw => (hC w).2 ⟨hw, by have := d2 hw v (h.own_top hp hu2.2); omega⟩⟩
  have hclosed : ∀ u w, (u ∈ v :: b ∨ s.closed g u) → g.E u w → (w ∈ v :: b ∨ s.closed g w) := by
    intro u w hu he
    rcases hu with hu | hu
    · obtain ⟨l1, l2, l3⟩ := hleave u hu w he
      by_cases hw : w ∈ s.opn
      · exact Or.inl (l3 hw)
      · exact Or.inr ⟨l1, l2, hw⟩
    · exact Or.inr (h.shut u w hu he)
  have hcl' : ∀ u, ({ s with path := fs, opn := a, on := offAll s.on (v :: b), comps := s.comps ++ [v :: b] } : S).closed g u ↔ (u ∈ v :: b ∨ s.closed g u) := by
    intro u
    unfold S.closed
    constructor
    · rintro ⟨c1, c2, c3⟩
      by_cases hu : u ∈ s.opn
      · left
        refine (hC u).2 ⟨hu, ?_⟩
        have : ¬ (u ∈ s.opn ∧ s.ord u < s.ord v) := fun hh => c3 ((hA u).2 hh)
        have h2 : ¬ s.ord u < s.ord v := fun hh => this ⟨hu, hh⟩
        omega
      · exact Or.inr ⟨c1, c2, hu⟩
    · rintro (hu | ⟨c1, c2, c3⟩)
      · have hu2 := (hC u).1 hu
        refine ⟨h.lt u hu2.1, Nat.pos_iff_ne_zero.1 (h.pos u hu2.1), fun hm => ?_⟩
        have := ((hA u).1 hm).2
        omega
      · exact ⟨c1, c2, fun hm => c3 ((hA u).1 hm).1⟩
  have hcomp : IsComp g (v :: b) := by
    refine ⟨?_, ?_⟩
    · have := h.nodup
      rw [ho] at this
      exact (List.nodup_append.1 this).2.1
    · intro u hu
      have hu2 := (hC u).1 hu
      refine ⟨h.lt u hu2.1, fun y hy => ?_⟩
      obtain ⟨m1, m2⟩ := h.bothWays hp hu2.1 hu2.2
      constructor
      · intro hyC
        have hy2 := (hC y).1 hyC
        obtain ⟨n1, n2⟩ := h.bothWays hp hy2.1 hy2.2
        exact ⟨m2.trans n1, n2.trans m1⟩
      · rintro ⟨r1, r2⟩
        have hst : y ∈ v :: b ∨ s.closed g y := Reach.stays (S := fun x => x ∈ v :: b ∨ s.closed g x) hclosed r1 (Or.inl hu)
        rcases hst with hst | hst
        · exact hst
        · have := Reach.stays (S := fun x => s.closed g x) h.shut r2 hst
          exact absurd hu2.1 this.2.2
  have hown : ∀ u q, u ∈ a → (({ s with path := fs, opn := a, on := offAll s.on (v :: b), comps := s.comps ++ [v :: b] } : S).Own u q ↔ s.Own u q) := by
    intro u q hu
    have hu2 := (hA u).1 hu
    unfold S.Own
    rw [hpv', t5]
    constructor
    · rintro ⟨o1, o2, o3⟩
      refine ⟨List.mem_append.2 (Or.inl o1), o2, fun r hr hru => ?_⟩
      rcases List.mem_append.1 hr with hr | hr
      · exact o3 r hr hru
      · simp at hr; subst hr
        have h1 : s.ord r ≤ s.ord u := hru
        omega
    · rintro ⟨o1, o2, o3⟩
      have hq : q ∈ fs.map Prod.fst := by
        rcases List.mem_append.1 o1 with o1 | o1
        · exact o1
        · simp at o1; subst o1; omega
      exact ⟨hq, o2, fun r hr hru => o3 r (List.mem_append.2 (Or.inl hr)) hru⟩
  refine { lt := ?_, inc := ?_, onIff := ?_, le := h.le, pos := ?_, sub := ?_, pinc := ?_, preach := ?_, shut := ?_, lowLe := ?_, lowAt := ?_, lowLt := ?_, own := ?_, done := ?_, part := ?_, comps := ?_, found := ?_ }
  · intro u hu
    exact h.lt u ((hA u).1 hu).1
  · exact hinc.1
  · intro u
    show offAll s.on (v :: b) u = true ↔ u ∈ a
    unfold offAll
    by_cases hu : u ∈ v :: b
    · rw [if_pos hu]
      have hu2 := (hC u).1 hu
      constructor
      · intro hf; cases hf
      · intro hm; have := ((hA u).1 hm).2; omega
    · rw [if_neg hu, h.onIff u, ho]
      simp only [List.mem_append]
      exact ⟨fun hh => hh.elim id (fun hh => absurd hh hu), Or.inl⟩
  · intro u hu
    exact h.pos u ((hA u).1 hu).1
  · rw [hpv']
    intro u hu
    exact (hA u).2 ⟨h.sub u (by rw [t5]; exact List.mem_append.2 (Or.inl hu)), hfs_lt u hu⟩
  · rw [hpv']; exact hpinc.1
  · rw [hpv']; exact hpreach.1
  · intro u w hu he
    rw [hcl'] at hu ⊢
    exact hclosed u w hu he
  · intro u hu
    exact h.lowLe u ((hA u).1 hu).1
  · intro u hu
    have hu2 := (hA u).1 hu
    obtain ⟨x, hx, hxo, hxr⟩ := h.lowAt u hu2.1
    have := h.lowLe u hu2.1
    exact ⟨x, (hA x).2 ⟨hx, by omega⟩, hxo, hxr⟩
  · rw [hpv']
    intro u hu hnu
    have hu2 := (hA u).1 hu
    refine h.lowLt u hu2.1 ?_
    rw [t5]
    intro hm
    rcases List.mem_append.1 hm with hm | hm
    · exact hnu hm
    · simp at hm; subst hm; omega
  · intro u hu
    obtain ⟨q, hq, hr⟩ := h.own u ((hA u).1 hu).1
    exact ⟨q, (hown u q hu).2 hq, hr⟩
  · rw [hpv']
    intro u hu hnu w he
    have hu2 := (hA u).1 hu
    have hnu' : u ∉ s.pv := by
      rw [t5]
      intro hm
      rcases List.mem_append.1 hm with hm | hm
      · exact hnu hm
      · simp at hm; subst hm; omega
    obtain ⟨d1, d2⟩ := h.done u hu2.1 hnu' w he
    exact ⟨d1, fun hw q hq => d2 ((hA w).1 hw).1 q ((hown u q hu).1 hq)⟩
  · intro u c hm
    obtain ⟨a1, a2, a3⟩ := h.part u c (by rw [hp]; exact List.mem_append.2 (Or.inl hm))
    refine ⟨a1, a2, fun c' hc1 hc2 => ?_⟩
    obtain ⟨b1, b2⟩ := a3 c' hc1 hc2
    exact ⟨b1, fun hw => b2 ((hA _).1 hw).1⟩
  · intro C hC'
    rcases List.mem_append.1 hC' with hC' | hC'
    · exact h.comps C hC'
    · simp at hC'; subst hC'; exact hcomp
  · intro u
    rw [hcl', h.found u]
    constructor
    · rintro (hu | ⟨C, hC1, hC2⟩)
      · exact ⟨v :: b, List.mem_append.2 (Or.inr (by simp)), hu⟩
      · exact ⟨C, List.mem_append.2 (Or.inl hC1), hC2⟩
    · rintro ⟨C, hC1, hC2⟩
      rcases List.mem_append.1 hC1 with hC1 | hC1
      · exact Or.inr ⟨C, hC1, hC2⟩
      · simp at hC1; subst hC1; exact Or.inl hC2

end Go.Proofs.Ybulkcnjc.Tj
