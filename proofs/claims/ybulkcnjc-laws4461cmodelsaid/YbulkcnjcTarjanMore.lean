/-
  Tarjan, further: the measure; the smallest node on a cycle; the closure; all in plain words.
-/
import Derived.Test.YbulkcnjcTarjan
namespace Go.Proofs.Ybulkcnjc.Tj

/-! ### a measure that every step lowers -/

theorem sum_range_upd (f f' : Nat → Nat) (v : Nat) : ∀ (n : Nat), v < n → (∀ u, u ≠ v → f' u = f u) → ((List.range n).map f').sum + f v = ((List.range n).map f).sum + f' v
  | 0, hv, _ => by omega
  | n + 1, hv, h => by
    rw [List.range_succ, List.map_append, List.map_append, List.sum_append, List.sum_append]
    simp only [List.map_cons, List.map_nil, List.sum_cons, List.sum_nil]
    by_cases e : v = n
    · subst e
      have hh : (List.range v).map f' = (List.range v).map f := by
        apply List.map_congr_left
        intro u hu
        have := List.mem_range.1 hu
        exact h u (by omega)
      rw [hh]
      omega
    · have := sum_range_upd f f' v n (by omega) h
      have h2 := h n (by omega)
      omega

def rem (g : G) (p : List (Nat × Nat)) : Nat := (p.map (fun f => g.st (f.1 + 1) - f.2)).sum
def unv (g : G) (ord : Nat → Nat) : Nat := ((List.range g.n).map (fun v => if ord v = 0 then (g.st (v + 1) - g.st v) + 2 else 0)).sum
def mu (g : G) (s : S) : Nat := rem g s.path + unv g s.ord + s.path.length

theorem rem_append (g : G) (p q : List (Nat × Nat)) : rem g (p ++ q) = rem g p + rem g q := by simp [rem]
theorem rem_one (g : G) (v c : Nat) : rem g [(v, c)] = g.st (v + 1) - c := by simp [rem]
theorem rem_cons (g : G) (v c : Nat) (q : List (Nat × Nat)) : rem g ((v, c) :: q) = g.st (v + 1) - c + rem g q := by simp [rem]

theorem mu_visit (g : G) (s : S) (v : Nat) (hv : v < g.n) (h0 : s.ord v = 0) : mu g (s.visit g v) + 1 = mu g s := by
  have h := sum_range_upd (fun v => if s.ord v = 0 then (g.st (v + 1) - g.st v) + 2 else 0) (fun u => if (s.visit g v).ord u = 0 then (g.st (u + 1) - g.st u) + 2 else 0) v g.n hv
    (fun u hu => by
      have : (s.visit g v).ord u = s.ord u := upd_other _ _ hu
      simp only [this])
  have e1 : (s.visit g v).ord v = s.cnt + 1 := upd_same _ _ _
  simp only [e1, h0] at h
  have e2 : ¬ s.cnt + 1 = 0 := by omega
  rw [if_pos trivial, if_neg e2] at h
  have e3 : (s.visit g v).path = s.path ++ [(v, g.st v)] := rfl
  unfold mu unv
  rw [e3, rem_append, rem_one, List.length_append]
  simp only [List.length_cons, List.length_nil]
  omega

theorem mu_cursor (g : G) (s : S) {fs gs : List (Nat × Nat)} {v c : Nat} (hp : s.path = fs ++ (v, c) :: gs) (hc : c < g.st (v + 1)) :
    mu g { s with path := fs ++ (v, c + 1) :: gs } + 1 = mu g s := by
  unfold mu
  simp only
  rw [hp, rem_append, rem_append, rem_cons, rem_cons]
  simp only [List.length_append, List.length_cons]
  omega

theorem mu_pop (g : G) (s : S) {fs : List (Nat × Nat)} {v : Nat} (hp : s.path = fs ++ [(v, g.st (v + 1))]) (s' : S) (h1 : s'.path = fs) (h2 : s'.ord = s.ord) : mu g s' + 1 = mu g s := by
  unfold mu
  rw [h1, h2, hp, rem_append, rem_one]
  simp only [List.length_append, List.length_cons, List.length_nil]
  omega

/-! ### the smallest node on a cycle -/

/-- the least member below t, as the closure reckons it -/
def leastOf (t : Int) (C : List Nat) : Int := C.foldl (fun (l : Int) (v : Nat) => if (v : Int) < t ∧ (l < 0 ∨ (v : Int) < l) then (v : Int) else l) (-1)
def belowOf (t : Int) (C : List Nat) : Nat := (C.filter (fun v : Nat => decide ((v : Int) < t))).length
def upSm (t : Int) (sm : Int) (C : List Nat) : Int := if 1 < belowOf t C ∧ (sm < 0 ∨ leastOf t C < sm) then leastOf t C else sm
def smOf (t : Int) (cs : List (List Nat)) : Int := cs.foldl (upSm t) (-1)

theorem leastOf_snoc (t : Int) (C : List Nat) (v : Nat) : leastOf t (C ++ [v]) = if (v : Int) < t ∧ (leastOf t C < 0 ∨ (v : Int) < leastOf t C) then (v : Int) else leastOf t C := by
  unfold leastOf
  rw [List.foldl_append]
  rfl
theorem belowOf_snoc (t : Int) (C : List Nat) (v : Nat) : belowOf t (C ++ [v]) = belowOf t C + if (v : Int) < t then 1 else 0 := by
  unfold belowOf
  rw [List.filter_append, List.length_append]
  by_cases h : (v : Int) < t <;> simp [h]
theorem smOf_snoc (t : Int) (cs : List (List Nat)) (C : List Nat) : smOf t (cs ++ [C]) = upSm t (smOf t cs) C := by simp [smOf]

theorem belowOf_le (t : Int) (C : List Nat) : belowOf t C ≤ C.length := List.length_filter_le _ _

theorem leastOf_spec (t : Int) (C : List Nat) : ∀ k, k ≤ C.length →
    (leastOf t (C.take k) = -1 ∧ ∀ v ∈ C.take k, ¬ (v : Int) < t) ∨ (∃ v ∈ C.take k, leastOf t (C.take k) = (v : Int) ∧ (v : Int) < t ∧ ∀ u ∈ C.take k, (u : Int) < t → v ≤ u) := by
  intro k
  induction k with
  | zero => intro _; left; simp [leastOf]
  | succ k ih =>
    intro hk
    have hk' : k < C.length := by omega
    rw [List.take_succ_eq_append_getElem hk', leastOf_snoc]
    generalize C[k] = x
    rcases ih (by omega) with ⟨h1, h2⟩ | ⟨v, hv, h1, h2, h3⟩
    · rw [h1]
      by_cases hx : (x : Int) < t
      · right
        rw [if_pos ⟨hx, Or.inl (by omega)⟩]
        refine ⟨x, by simp, rfl, hx, fun u hu hut => ?_⟩
        rcases List.mem_append.1 hu with hu | hu
        · exact absurd hut (h2 u hu)
        · simp at hu; omega
      · left
        rw [if_neg (fun hh => hx hh.1)]
        refine ⟨rfl, fun u hu => ?_⟩
        rcases List.mem_append.1 hu with hu | hu
        · exact h2 u hu
        · simp at hu; subst hu; exact hx
    · right
      rw [h1]
      by_cases hx : (x : Int) < t ∧ ((v : Int) < 0 ∨ (x : Int) < (v : Int))
      · rw [if_pos hx]
        refine ⟨x, by simp, rfl, hx.1, fun u hu hut => ?_⟩
        rcases List.mem_append.1 hu with hu | hu
        · have := h3 u hu hut; omega
        · simp at hu; omega
      · rw [if_neg hx]
        refine ⟨v, List.mem_append.2 (Or.inl hv), rfl, h2, fun u hu hut => ?_⟩
        rcases List.mem_append.1 hu with hu | hu
        · exact h3 u hu hut
        · simp at hu; subst hu
          have : ¬ (u : Int) < (v : Int) := fun hh => hx ⟨hut, Or.inr hh⟩
          omega

/-- v lies on a cycle with another node below t -/
def Good (g : G) (t : Int) (v : Nat) : Prop := v < g.n ∧ (v : Int) < t ∧ ∃ u, u < g.n ∧ u ≠ v ∧ (u : Int) < t ∧ Reach g v u ∧ Reach g u v

def IsMin (g : G) (t : Int) (r : Int) : Prop := (r = -1 ∧ ∀ v, ¬ Good g t v) ∨ ∃ v, r = ((v : Nat) : Int) ∧ Good g t v ∧ ∀ u, Good g t u → v ≤ u

theorem IsMin.unique {g : G} {t r r' : Int} (h : IsMin g t r) (h' : IsMin g t r') : r = r' := by
  rcases h with ⟨h1, h2⟩ | ⟨v, h1, h2, h3⟩
  · rcases h' with ⟨h1', _⟩ | ⟨v', _, h2', _⟩
    · rw [h1, h1']
    · exact absurd h2' (h2 v')
  · rcases h' with ⟨_, h2'⟩ | ⟨v', h1', h2', h3'⟩
    · exact absurd h2 (h2' v)
    · have := h3 v' h2'
      have := h3' v h2
      omega

/-- of a component: is there a pair below t, and which member below t is the least -/
theorem comp_good {g : G} {t : Int} {C : List Nat} (hC : IsComp g C) :
    (1 < belowOf t C → ∃ v ∈ C, leastOf t C = (v : Int) ∧ Good g t v ∧ ∀ u ∈ C, Good g t u → v ≤ u) ∧ (¬ 1 < belowOf t C → ∀ u ∈ C, ¬ Good g t u) := by
  obtain ⟨hnd, hmem⟩ := hC
  have hspec := leastOf_spec t C C.length (Nat.le_refl _)
  rw [List.take_length] at hspec
  constructor
  · intro hb
    unfold belowOf at hb
    have hnd' : (C.filter (fun v : Nat => decide ((v : Int) < t))).Nodup := hnd.sublist List.filter_sublist
    rcases hspec with ⟨_, h2⟩ | ⟨v, hv, h1, h2, h3⟩
    · have : C.filter (fun v : Nat => decide ((v : Int) < t)) = [] := by
        rw [List.filter_eq_nil_iff]
        intro x hx
        simpa using h2 x hx
      rw [this] at hb
      simp at hb
    · have hother : ∃ u ∈ C, u ≠ v ∧ (u : Int) < t := by
        generalize hF : C.filter (fun v : Nat => decide ((v : Int) < t)) = F at hb hnd'
        have hin : ∀ x ∈ F, x ∈ C ∧ (x : Int) < t := by
          intro x hx
          rw [← hF, List.mem_filter] at hx
          exact ⟨hx.1, by simpa using hx.2⟩
        match F, hb, hnd', hin with
        | a :: b :: rest, _, hnd', hin =>
          by_cases e : a = v
          · refine ⟨b, (hin b (by simp)).1, ?_, (hin b (by simp)).2⟩
            intro e2
            rw [List.nodup_cons] at hnd'
            exact hnd'.1 (by rw [e, ← e2]; simp)
          · exact ⟨a, (hin a (by simp)).1, e, (hin a (by simp)).2⟩
      obtain ⟨u, hu, hne, hut⟩ := hother
      obtain ⟨hvn, hvc⟩ := hmem v hv
      have hun := (hmem u hu).1
      have hr := (hvc u hun).1 hu
      exact ⟨v, hv, h1, ⟨hvn, h2, u, hun, hne, hut, hr.1, hr.2⟩, fun x hx hg => h3 x hx hg.2.1⟩
  · intro hb u hu hg
    obtain ⟨_, hut, x, hxn, hne, hxt, r1, r2⟩ := hg
    have hx : x ∈ C := ((hmem u hu).2 x hxn).2 ⟨r1, r2⟩
    apply hb
    unfold belowOf
    have h1 : u ∈ C.filter (fun v : Nat => decide ((v : Int) < t)) := List.mem_filter.2 ⟨hu, by simpa using hut⟩
    have h2 : x ∈ C.filter (fun v : Nat => decide ((v : Int) < t)) := List.mem_filter.2 ⟨hx, by simpa using hxt⟩
    match hF : C.filter (fun v : Nat => decide ((v : Int) < t)) with
    | [] => rw [hF] at h1; cases h1
    | [y] =>
      rw [hF] at h1 h2
      simp at h1 h2
      exact absurd (h2.trans h1.symm) hne
    | _ :: _ :: _ => simp

theorem smOf_spec {g : G} {t : Int} {cs : List (List Nat)} (hcs : ∀ C ∈ cs, IsComp g C) : ∀ k, k ≤ cs.length →
    (smOf t (cs.take k) = -1 ∧ ∀ C ∈ cs.take k, ∀ v ∈ C, ¬ Good g t v) ∨ (∃ v, smOf t (cs.take k) = ((v : Nat) : Int) ∧ Good g t v ∧ ∀ C ∈ cs.take k, ∀ u ∈ C, Good g t u → v ≤ u) := by
  intro k
  induction k with
  | zero => intro _; left; simp [smOf]
  | succ k ih =>
    intro hk
    have hk' : k < cs.length := by omega
    have hC := hcs cs[k] (List.getElem_mem hk')
    rw [List.take_succ_eq_append_getElem hk', smOf_snoc]
    generalize cs[k] = C at hC
    obtain ⟨g1, g2⟩ := comp_good (t := t) hC
    unfold upSm
    by_cases hb : 1 < belowOf t C
    · obtain ⟨x, hx, e1, e2, e3⟩ := g1 hb
      rw [e1]
      rcases ih (by omega) with ⟨h1, h2⟩ | ⟨v, h1, h2, h3⟩
      · right
        rw [h1, if_pos ⟨hb, Or.inl (by omega)⟩]
        refine ⟨x, rfl, e2, fun D hD u hu hg => ?_⟩
        rcases List.mem_append.1 hD with hD | hD
        · exact absurd hg (h2 D hD u hu)
        · simp at hD; subst hD; exact e3 u hu hg
      · right
        rw [h1]
        by_cases hlt : (x : Int) < (v : Int)
        · rw [if_pos ⟨hb, Or.inr hlt⟩]
          refine ⟨x, rfl, e2, fun D hD u hu hg => ?_⟩
          rcases List.mem_append.1 hD with hD | hD
          · have := h3 D hD u hu hg; omega
          · simp at hD; subst hD; exact e3 u hu hg
        · rw [if_neg (fun hh => hh.2.elim (fun h => by omega) hlt)]
          refine ⟨v, rfl, h2, fun D hD u hu hg => ?_⟩
          rcases List.mem_append.1 hD with hD | hD
          · exact h3 D hD u hu hg
          · simp at hD; subst hD
            have := e3 u hu hg
            omega
    · rw [if_neg (fun hh => hb hh.1)]
      rcases ih (by omega) with ⟨h1, h2⟩ | ⟨v, h1, h2, h3⟩
      · left
        refine ⟨h1, fun D hD u hu => ?_⟩
        rcases List.mem_append.1 hD with hD | hD
        · exact h2 D hD u hu
        · simp at hD; subst hD; exact g2 hb u hu
      · right
        refine ⟨v, h1, h2, fun D hD u hu hg => ?_⟩
        rcases List.mem_append.1 hD with hD | hD
        · exact h3 D hD u hu hg
        · simp at hD; subst hD; exact absurd hg (g2 hb u hu)

/-- at the end: every node is in a component: the closure's answer is the smallest good node -/
theorem smOf_min {g : G} {t : Int} {s : S} (h : Inv g s) (hp : s.path = []) (hall : ∀ v, v < g.n → s.ord v ≠ 0) : IsMin g t (smOf t s.comps) := by
  have ho := h.none_open hp
  have hin : ∀ v, v < g.n → ∃ C ∈ s.comps, v ∈ C := fun v hv => (h.found v).1 ⟨hv, hall v hv, by rw [ho]; simp⟩
  have hs := smOf_spec (t := t) h.comps s.comps.length (Nat.le_refl _)
  rw [List.take_length] at hs
  rcases hs with ⟨h1, h2⟩ | ⟨v, h1, h2, h3⟩
  · refine Or.inl ⟨h1, fun v hg => ?_⟩
    obtain ⟨C, hC, hv⟩ := hin v hg.1
    exact h2 C hC v hv hg
  · refine Or.inr ⟨v, h1, h2, fun u hg => ?_⟩
    obtain ⟨C, hC, hu⟩ := hin u hg.1
    exact h3 C hC u hu hg

/-! ### the transitive closure by stages -/

def Wst (R0 : Nat → Nat → Bool) : Nat → Nat → Nat → Bool
  | 0 => R0
  | k + 1 => fun a x => Wst R0 k a x || (Wst R0 k a k && Wst R0 k k x)

theorem Wst_mono (R0 : Nat → Nat → Bool) (k : Nat) (a x : Nat) (h : Wst R0 k a x = true) : Wst R0 (k + 1) a x = true := by simp [Wst, h]

theorem Wst_mono0 (R0 : Nat → Nat → Bool) : ∀ (k : Nat) (a x : Nat), R0 a x = true → Wst R0 k a x = true
  | 0, _, _, h => h
  | k + 1, a, x, h => Wst_mono R0 k a x (Wst_mono0 R0 k a x h)

theorem Wst_sound {g : G} {R0 : Nat → Nat → Bool} (h0 : ∀ a x, R0 a x = true → Reach g a x) : ∀ (k : Nat) (a x : Nat), Wst R0 k a x = true → Reach g a x
  | 0, a, x, h => h0 a x h
  | k + 1, a, x, h => by
    simp only [Wst, Bool.or_eq_true, Bool.and_eq_true] at h
    rcases h with h | ⟨h1, h2⟩
    · exact Wst_sound h0 k a x h
    · exact (Wst_sound h0 k a k h1).trans (Wst_sound h0 k k x h2)

theorem Wst_trans (R0 : Nat → Nat → Bool) : ∀ (K m i j : Nat), m < K → Wst R0 K i m = true → Wst R0 K m j = true → Wst R0 K i j = true
  | 0, _, _, _, h, _, _ => by omega
  | K + 1, m, i, j, hm, h1, h2 => by
    simp only [Wst, Bool.or_eq_true, Bool.and_eq_true] at h1 h2 ⊢
    by_cases e : m = K
    · subst e
      have a1 : Wst R0 m i m = true := by
        rcases h1 with h1 | h1
        · exact h1
        · exact h1.1
      have a2 : Wst R0 m m j = true := by
        rcases h2 with h2 | h2
        · exact h2
        · exact h2.2
      exact Or.inr ⟨a1, a2⟩
    · have hm' : m < K := by omega
      rcases h1 with h1 | ⟨h1, h1'⟩
      · rcases h2 with h2 | ⟨h2, h2'⟩
        · exact Or.inl (Wst_trans R0 K m i j hm' h1 h2)
        · exact Or.inr ⟨Wst_trans R0 K m i K hm' h1 h2, h2'⟩
      · rcases h2 with h2 | ⟨h2, h2'⟩
        · exact Or.inr ⟨h1, Wst_trans R0 K m K j hm' h1' h2⟩
        · exact Or.inr ⟨h1, h2'⟩

/-- the closure is complete -/
theorem Wst_reach {g : G} (hok : g.Ok) {R0 : Nat → Nat → Bool} (hr : ∀ a, a < g.n → R0 a a = true) (he : ∀ a x, a < g.n → g.E a x → R0 a x = true) :
    ∀ (k : Nat) (a x : Nat), a < g.n → reachN g k a x → Wst R0 g.n a x = true
  | 0, a, x, ha, h => by
    simp only [reachN] at h
    subst h
    exact Wst_mono0 R0 g.n a a (hr a ha)
  | k + 1, a, x, ha, h => by
    obtain ⟨y, hy, hrest⟩ := h
    have hyn : y < g.n := by
      obtain ⟨c, h1, h2, h3⟩ := hy
      rw [← h3]
      exact hok a c ha h1 h2
    exact Wst_trans R0 g.n y a x hyn (Wst_mono0 R0 g.n a y (he a y ha hy)) (Wst_reach hok hr he k y x hyn hrest)

theorem Wst_iff {g : G} (hok : g.Ok) {R0 : Nat → Nat → Bool} (hiff : ∀ a x, R0 a x = true → a = x ∨ g.E a x) (hr : ∀ a, a < g.n → R0 a a = true) (he : ∀ a x, a < g.n → g.E a x → R0 a x = true)
    {a x : Nat} (ha : a < g.n) : Wst R0 g.n a x = true ↔ Reach g a x := by
  constructor
  · exact Wst_sound (fun a x h => by
      rcases hiff a x h with rfl | h
      · exact Reach.refl _ _
      · exact Reach.edge h) g.n a x
  · rintro ⟨k, hk⟩
    exact Wst_reach hok hr he k a x ha hk

end Go.Proofs.Ybulkcnjc.Tj
