/-
  The smallest-first topological order, plainly.
-/
import Derived.Test.YbulkcnjcCHeapPl
import Derived.Test.YbulkcnjcCsr
namespace Go.Proofs.Ybulkcnjc
namespace Kh

def ct (p : Nat → Bool) : Nat → Nat
  | 0 => 0
  | n + 1 => ct p n + if p n = true then 1 else 0

theorem ct_congr {p q : Nat → Bool} : ∀ {n : Nat}, (∀ i, i < n → p i = q i) → ct p n = ct q n
  | 0, _ => rfl
  | n + 1, h => by
    unfold ct
    rw [ct_congr (n := n) (fun i hi => h i (by omega)), h n (by omega)]

theorem ct_zero {p : Nat → Bool} : ∀ {n : Nat}, ct p n = 0 → ∀ i, i < n → p i = false
  | 0, _, i, hi => by omega
  | n + 1, h, i, hi => by
    unfold ct at h
    by_cases e : i = n
    · subst e
      cases hp : p i
      · rfl
      · rw [hp, if_pos rfl] at h; omega
    · exact ct_zero (n := n) (by omega) i (by omega)

theorem ct_pos {p : Nat → Bool} {n i : Nat} (hi : i < n) (h : p i = true) : 0 < ct p n := by
  rcases Nat.eq_zero_or_pos (ct p n) with e | e
  · rw [ct_zero e i hi] at h; cases h
  · exact e

theorem ct_flip {p q : Nat → Bool} {v : Nat} (hp : p v = true) (hq : q v = false) (h : ∀ i, i ≠ v → p i = q i) : ∀ {n : Nat}, v < n → ct p n = ct q n + 1
  | 0, hv => by omega
  | n + 1, hv => by
    unfold ct
    by_cases e : v = n
    · subst e
      rw [hp, hq, ct_congr (q := q) (fun i hi => h i (by omega))]
      simp
    · rw [ct_flip hp hq h (n := n) (by omega), h n (fun e' => e e'.symm)]
      omega

theorem ct_all {p : Nat → Bool} (h : ∀ i, p i = true) : ∀ n, ct p n = n
  | 0 => rfl
  | n + 1 => by unfold ct; rw [ct_all h n, h n]; simp

def wt (A : Nat → Nat → Bool) (P : Nat → Bool) (m w : Nat) : Nat := ct (fun v => A v w && !P v) m
def rdy (A : Nat → Nat → Bool) (P : Nat → Bool) (m : Nat) : Nat → Bool := fun i => decide (i < m) && (!P i && decide (wt A P m i = 0))

theorem rdy_iff (A : Nat → Nat → Bool) (P : Nat → Bool) (m i : Nat) : rdy A P m i = true ↔ i < m ∧ P i = false ∧ wt A P m i = 0 := by
  simp [rdy]

theorem wt_step (A : Nat → Nat → Bool) (P : Nat → Bool) (m v w : Nat) (hv : v < m) (hP : P v = false) : wt A P m w = wt A (Tj.upd P v true) m w + if A v w = true then 1 else 0 := by
  unfold wt
  by_cases hA : A v w = true
  · rw [if_pos hA]
    exact ct_flip (v := v) (by simp [hA, hP]) (by simp [Tj.upd]) (fun i hi => by simp [Tj.upd, hi]) hv
  · rw [if_neg hA, Nat.add_zero]
    apply ct_congr
    intro i hi
    by_cases e : i = v
    · subst e; simp [hA]
    · simp [Tj.upd, e]

theorem wt_le (A : Nat → Nat → Bool) (P : Nat → Bool) (w : Nat) : ∀ m, ct (fun v => A v w && !P v) m ≤ m
  | 0 => Nat.le_refl _
  | m + 1 => by
    unfold ct
    have := wt_le A P w m
    by_cases h : (A m w && !P m) = true
    · rw [if_pos h]; omega
    · rw [if_neg h]; omega

def fst (S : Nat → Bool) : Nat → Option Nat
  | 0 => none
  | k + 1 => match fst S k with
    | some i => some i
    | none => if S k = true then some k else none

theorem fst_none {S : Nat → Bool} : ∀ {k : Nat}, fst S k = none → ∀ i, i < k → S i = false
  | 0, _, i, hi => by omega
  | k + 1, h, i, hi => by
    unfold fst at h
    cases hf : fst S k with
    | some j => rw [hf] at h; cases h
    | none =>
      rw [hf] at h
      by_cases e : S k = true
      · simp [e] at h
      · by_cases e' : i = k
        · subst e'; simpa using e
        · exact fst_none hf i (by omega)

theorem fst_some {S : Nat → Bool} {v : Nat} : ∀ {k : Nat}, fst S k = some v → v < k ∧ S v = true ∧ ∀ i, i < v → S i = false
  | 0, h => by cases h
  | k + 1, h => by
    unfold fst at h
    cases hf : fst S k with
    | some j =>
      rw [hf] at h
      obtain rfl : j = v := by simpa using h
      obtain ⟨h1, h2, h3⟩ := fst_some hf
      exact ⟨by omega, h2, h3⟩
    | none =>
      rw [hf] at h
      by_cases e : S k = true
      · simp [e] at h
        subst h
        exact ⟨by omega, e, fst_none hf⟩
      · simp [e] at h

theorem fst_eq {S : Nat → Bool} {v k : Nat} (hv : v < k) (h : S v = true) (hl : ∀ i, i < v → S i = false) : fst S k = some v := by
  cases hf : fst S k with
  | none => rw [fst_none hf v hv] at h; cases h
  | some u =>
    obtain ⟨h1, h2, h3⟩ := fst_some hf
    rcases Nat.lt_trichotomy u v with e | e | e
    · rw [hl u e] at h2; cases h2
    · rw [e]
    · rw [h3 v e] at h; cases h
theorem fst_no {S : Nat → Bool} {k : Nat} (h : ∀ i, i < k → S i = false) : fst S k = none := by
  cases hf : fst S k with
  | none => rfl
  | some u =>
    obtain ⟨h1, h2, h3⟩ := fst_some hf
    rw [h u h1] at h2; cases h2

def kahn (A : Nat → Nat → Bool) (m : Nat) : Nat → (Nat → Bool) → List Nat
  | 0, _ => []
  | f + 1, P => match fst (rdy A P m) m with
    | none => []
    | some v => v :: kahn A m f (Tj.upd P v true)

/-- the order -/
def ord (A : Nat → Nat → Bool) (m : Nat) : List Nat := kahn A m m (fun _ => false)

structure At (A : Nat → Nat → Bool) (m : Nat) (ks : List Nat) (P : Nat → Bool) : Prop where
  run : ord A m = ks ++ kahn A m (m - ks.length) P
  len : ks.length + ct (fun i => !P i) m = m
  low : ∀ x ∈ ks, x < m
  done : ∀ w, P w = true → wt A P m w = 0

theorem At.start (A : Nat → Nat → Bool) (m : Nat) : At A m [] (fun _ => false) :=
  ⟨by simp [ord], by rw [ct_all (p := fun i => !false) (fun _ => rfl)]; simp, fun x hx => (by cases hx), fun w h => (by cases h)⟩

theorem At.step {A : Nat → Nat → Bool} {m : Nat} {ks : List Nat} {P : Nat → Bool} {v : Nat} (h : At A m ks P) (hv : fst (rdy A P m) m = some v) : At A m (ks ++ [v]) (Tj.upd P v true) := by
  obtain ⟨h1, h2, _⟩ := fst_some hv
  obtain ⟨_, hP, hw0⟩ := (rdy_iff A P m v).1 h2
  have hc := ct_flip (p := fun i => !P i) (q := fun i => !(Tj.upd P v true) i) (v := v) (by simp [hP]) (by simp [Tj.upd]) (fun i hi => by simp [Tj.upd, hi]) h1
  have hl := h.len
  refine ⟨?_, ?_, ?_, fun w hw => ?_⟩
  · rw [h.run]
    obtain ⟨f, hf⟩ : ∃ f, m - ks.length = f + 1 := ⟨m - ks.length - 1, by omega⟩
    rw [hf]
    simp only [kahn, hv, List.length_append, List.length_singleton, List.append_assoc, List.singleton_append]
    rw [show m - (ks.length + 1) = f by omega]
  · simp only [List.length_append, List.length_singleton]
    omega
  · intro x hx
    rcases List.mem_append.1 hx with h' | h'
    · exact h.low x h'
    · simp at h'; omega
  · have := wt_step A P m v w h1 hP
    by_cases e : w = v
    · subst e; omega
    · have := h.done w (by simpa [Tj.upd, e] using hw)
      omega

theorem At.stop {A : Nat → Nat → Bool} {m : Nat} {ks : List Nat} {P : Nat → Bool} (h : At A m ks P) (hv : fst (rdy A P m) m = none) : ord A m = ks := by
  rw [h.run]
  cases m - ks.length with
  | zero => simp [kahn]
  | succ f => simp [kahn, hv]
theorem At.full {A : Nat → Nat → Bool} {m : Nat} {ks : List Nat} {P : Nat → Bool} (h : At A m ks P) (hv : ks.length = m) : ord A m = ks := by
  rw [h.run, hv]
  simp [kahn]

/-! ### the graph's rows -/
structure Gr (A : Nat → Nat → Bool) (m K : Nat) (ST FB : Nat → Nat) : Prop where
  st0 : ST 0 = 0
  stm : ST m = K
  mono : ∀ v, v < m → ST v ≤ ST (v + 1)
  low : ∀ v, v ≤ m → ST v ≤ K
  fb : ∀ i, i < K → FB i < m
  once : ∀ v, v < m → ∀ i j, ST v ≤ i → i < j → j < ST (v + 1) → FB i ≠ FB j
  adj : ∀ v, v < m → ∀ w, A v w = true ↔ ∃ i, ST v ≤ i ∧ i < ST (v + 1) ∧ FB i = w

theorem cnt_none (F : Nat → Nat) (w a : Nat) : ∀ d, (∀ i, a ≤ i → i < a + d → F i ≠ w) → Tj.cnt F (a + d) w = Tj.cnt F a w
  | 0, _ => rfl
  | d + 1, h => by
    rw [← Nat.add_assoc]
    show Tj.cnt F (a + d) w + _ = _
    rw [cnt_none F w a d (fun i h1 h2 => h i h1 (by omega))]
    simp [h (a + d) (by omega) (by omega)]

theorem cnt_seg (F : Nat → Nat) (w : Nat) {a b : Nat} (hab : a ≤ b) (h1 : ∀ i j, a ≤ i → i < j → j < b → F i ≠ F j) (B : Bool) (hB : B = true ↔ ∃ i, a ≤ i ∧ i < b ∧ F i = w) : Tj.cnt F b w = Tj.cnt F a w + if B = true then 1 else 0 := by
  cases hb : B with
  | false =>
    have hn : ∀ i, a ≤ i → i < b → F i ≠ w := fun i h2 h3 e => by
      rw [hB.2 ⟨i, h2, h3, e⟩] at hb; cases hb
    have := cnt_none F w a (b - a) (fun i h2 h3 => hn i h2 (by omega))
    rw [show a + (b - a) = b by omega] at this
    simp [this]
  | true =>
    obtain ⟨i, h2, h3, h4⟩ := hB.1 hb
    have e1 := cnt_none F w a (i - a) (fun k h5 h6 e => h1 k i h5 (by omega) h3 (by rw [e, h4]))
    rw [show a + (i - a) = i by omega] at e1
    have e2 : Tj.cnt F (i + 1) w = Tj.cnt F i w + 1 := by
      show Tj.cnt F i w + _ = _
      simp [h4]
    have e3 := cnt_none F w (i + 1) (b - (i + 1)) (fun k h5 h6 e => h1 i k h2 (by omega) (by omega) (by rw [e, h4]))
    rw [show i + 1 + (b - (i + 1)) = b by omega] at e3
    rw [e3, e2, e1]
    simp

theorem Gr.count {A : Nat → Nat → Bool} {m K : Nat} {ST FB : Nat → Nat} (g : Gr A m K ST FB) (w : Nat) : ∀ v, v ≤ m → Tj.cnt FB (ST v) w = ct (fun u => A u w) v
  | 0, _ => by rw [g.st0]; rfl
  | v + 1, h => by
    rw [cnt_seg FB w (g.mono v (by omega)) (g.once v (by omega)) (A v w) (g.adj v (by omega) w), g.count w v (by omega)]
    rfl
theorem Gr.first {A : Nat → Nat → Bool} {m K : Nat} {ST FB : Nat → Nat} (g : Gr A m K ST FB) (w : Nat) : Tj.cnt FB K w = wt A (fun _ => false) m w := by
  have := g.count w m (Nat.le_refl _)
  rw [g.stm] at this
  rw [this]
  unfold wt
  exact ct_congr (fun i _ => by simp)

theorem stOf_le' (F : Nat → Nat) (v : Nat) : ∀ K, Tj.stOf F K v ≤ K
  | 0 => by rw [Tj.stOf_zero]; exact Nat.le_refl _
  | K + 1 => by
    rw [Tj.stOf_succ]
    have := stOf_le' F v K
    by_cases h : F K < v
    · rw [if_pos h]; omega
    · rw [if_neg h]; omega
theorem stOf_iff (F : Nat → Nat) (v : Nat) : ∀ K, (∀ i j, i < j → j < K → F i ≤ F j) → ∀ i, i < K → (i < Tj.stOf F K v ↔ F i < v)
  | 0, _, i, hi => by omega
  | K + 1, h, i, hi => by
    have ih := stOf_iff F v K (fun i j h1 h2 => h i j h1 (by omega))
    have hle := stOf_le' F v K
    rw [Tj.stOf_succ]
    by_cases e : F K < v
    · rw [if_pos e]
      have hF : F i < v := by
        by_cases e' : i = K
        · subst e'; exact e
        · have := h i K (by omega) (by omega); omega
      have hK : K ≤ Tj.stOf F K v := by
        cases K with
        | zero => omega
        | succ k =>
          have h1 := (ih k (by omega)).2 (by have := h k (k + 1) (by omega) (by omega); omega)
          omega
      constructor
      · intro _; exact hF
      · intro _; omega
    · rw [if_neg e]
      by_cases e' : i = K
      · subst e'
        constructor
        · intro h1; omega
        · intro h1; exact absurd h1 e
      · exact ih i (by omega)

theorem gr_of {A : Nat → Nat → Bool} {m K : Nat} {FA FB : Nat → Nat} (ha : ∀ i, i < K → FA i < m) (hb : ∀ i, i < K → FB i < m)
    (hs : ∀ i j, i < j → j < K → FA i < FA j ∨ (FA i = FA j ∧ FB i < FB j)) (hA : ∀ v w, A v w = true ↔ ∃ i, i < K ∧ FA i = v ∧ FB i = w) : Gr A m K (Tj.stOf FA K) FB := by
  have hm : ∀ i j, i < j → j < K → FA i ≤ FA j := fun i j h1 h2 => by rcases hs i j h1 h2 with h | ⟨h, _⟩ <;> omega
  have key : ∀ v i, i < K → (Tj.stOf FA K v ≤ i ∧ i < Tj.stOf FA K (v + 1) ↔ FA i = v) := fun v i hi => by
    have h1 := stOf_iff FA v K hm i hi
    have h2 := stOf_iff FA (v + 1) K hm i hi
    constructor
    · rintro ⟨a, b⟩
      have := h2.1 b
      have : ¬ FA i < v := fun e => by have := h1.2 e; omega
      omega
    · intro e
      refine ⟨?_, h2.2 (by omega)⟩
      rcases Nat.lt_or_ge i (Tj.stOf FA K v) with h | h
      · have := h1.1 h; omega
      · exact h
  refine ⟨rfl, Tj.stOf_all FA m K ha, fun v _ => Tj.stOf_mono FA K (by omega), fun v _ => stOf_le' FA v K, hb, fun v hv i j h1 h2 h3 => ?_, fun v hv w => ?_⟩
  · have hK := stOf_le' FA (v + 1) K
    have e1 := (key v i (by omega)).1 ⟨h1, by omega⟩
    have e2 := (key v j (by omega)).1 ⟨by omega, h3⟩
    rcases hs i j h2 (by omega) with h | ⟨_, h⟩ <;> omega
  · rw [hA]
    have hK := stOf_le' FA (v + 1) K
    constructor
    · rintro ⟨i, hi, e1, e2⟩
      have := (key v i hi).2 e1
      exact ⟨i, this.1, this.2, e2⟩
    · rintro ⟨i, h1, h2, e⟩
      exact ⟨i, by omega, (key v i (by omega)).1 ⟨h1, h2⟩, e⟩

/-! ### one node's successors -/
def seen (FB : Nat → Nat) (a j w : Nat) : Prop := ∃ i, a ≤ i ∧ i < j ∧ FB i = w
structure InL (FB : Nat → Nat) (a j : Nat) (Wt0 : Nat → Nat) (S0 : Nat → Bool) (Wt : Nat → Nat) (S : Nat → Bool) : Prop where
  yes : ∀ w, seen FB a j w → Wt w + 1 = Wt0 w
  no : ∀ w, ¬ seen FB a j w → Wt w = Wt0 w
  set : ∀ w, S w = true ↔ S0 w = true ∨ (seen FB a j w ∧ Wt w = 0)

theorem InL.start (FB : Nat → Nat) (a : Nat) (Wt0 : Nat → Nat) (S0 : Nat → Bool) : InL FB a a Wt0 S0 Wt0 S0 := by
  have hn : ∀ w, ¬ seen FB a a w := fun w ⟨i, h1, h2, _⟩ => by omega
  exact ⟨fun w h => absurd h (hn w), fun w _ => rfl, fun w => ⟨Or.inl, fun h => h.elim id (fun h => absurd h.1 (hn w))⟩⟩

theorem seen_step (FB : Nat → Nat) {a j : Nat} (haj : a ≤ j) (w : Nat) : seen FB a (j + 1) w ↔ seen FB a j w ∨ w = FB j := by
  constructor
  · rintro ⟨i, h1, h2, h3⟩
    by_cases e : i = j
    · subst e; exact Or.inr h3.symm
    · exact Or.inl ⟨i, h1, by omega, h3⟩
  · rintro (⟨i, h1, h2, h3⟩ | h)
    · exact ⟨i, h1, by omega, h3⟩
    · exact ⟨j, haj, by omega, h.symm⟩

theorem InL.step {FB : Nat → Nat} {a j : Nat} {Wt0 : Nat → Nat} {S0 : Nat → Bool} {Wt : Nat → Nat} {S : Nat → Bool} (h : InL FB a j Wt0 S0 Wt S) (haj : a ≤ j) (hn : ¬ seen FB a j (FB j)) (z : Nat) (h1 : Wt (FB j) = z + 1) (h0 : S0 (FB j) = false) :
    (z = 0 → InL FB a (j + 1) Wt0 S0 (Tj.upd Wt (FB j) z) (Hp.ins S (FB j))) ∧ (z ≠ 0 → InL FB a (j + 1) Wt0 S0 (Tj.upd Wt (FB j) z) S) ∧ S (FB j) = false := by
  have e0 := h.no _ hn
  have hy : ∀ w, seen FB a (j + 1) w → Tj.upd Wt (FB j) z w + 1 = Wt0 w := fun w hw => by
    unfold Tj.upd
    by_cases e : w = FB j
    · rw [if_pos e, e]; omega
    · rw [if_neg e]
      rcases (seen_step FB haj w).1 hw with h' | h'
      · exact h.yes w h'
      · exact absurd h' e
  have hno : ∀ w, ¬ seen FB a (j + 1) w → Tj.upd Wt (FB j) z w = Wt0 w := fun w hw => by
    have h2 : ¬ seen FB a j w := fun e => hw ((seen_step FB haj w).2 (Or.inl e))
    have h3 : w ≠ FB j := fun e => hw ((seen_step FB haj w).2 (Or.inr e))
    unfold Tj.upd
    rw [if_neg h3]
    exact h.no w h2
  refine ⟨fun hz => ⟨hy, hno, fun w => ?_⟩, fun hz => ⟨hy, hno, fun w => ?_⟩, ?_⟩
  · unfold Hp.ins
    simp only [Bool.or_eq_true, decide_eq_true_eq]
    rw [h.set w, seen_step FB haj w]
    unfold Tj.upd
    by_cases e : w = FB j
    · subst e; simp [hz]
    · simp [e]
  · rw [h.set w, seen_step FB haj w]
    unfold Tj.upd
    by_cases e : w = FB j
    · subst e; simp [hz, hn]
    · simp [e]
  · cases hs : S (FB j) with
    | false => rfl
    | true =>
      rcases (h.set _).1 hs with h' | h'
      · rw [h0] at h'; cases h'
      · exact absurd h'.1 hn

theorem InL.stop {A : Nat → Nat → Bool} {m K : Nat} {ST FB : Nat → Nat} (g : Gr A m K ST FB) {ks : List Nat} {P : Nat → Bool} (hat : At A m ks P) {v : Nat} (hv : rdy A P m v = true) {Wt : Nat → Nat} {S : Nat → Bool}
    (h : InL FB (ST v) (ST (v + 1)) (wt A P m) (Hp.rem (rdy A P m) v) Wt S) : Wt = wt A (Tj.upd P v true) m ∧ S = rdy A (Tj.upd P v true) m := by
  obtain ⟨hvm, hP, hw0⟩ := (rdy_iff A P m v).1 hv
  have hs : ∀ w, seen FB (ST v) (ST (v + 1)) w ↔ A v w = true := fun w => (g.adj v hvm w).symm
  have hst := fun w => wt_step A P m v w hvm hP
  have hW : ∀ w, Wt w = wt A (Tj.upd P v true) m w := fun w => by
    have := hst w
    by_cases e : A v w = true
    · have := h.yes w ((hs w).2 e)
      rw [if_pos e] at *
      omega
    · have := h.no w (fun h => e ((hs w).1 h))
      rw [if_neg e] at *
      omega
  refine ⟨funext hW, funext fun w => ?_⟩
  have hb : S w = true ↔ rdy A (Tj.upd P v true) m w = true := by
    rw [h.set w, hs w, rdy_iff, hW w]
    unfold Hp.rem
    simp only [Bool.and_eq_true, Bool.not_eq_true', decide_eq_false_iff_not, rdy_iff]
    have h1 := hst w
    have hu : Tj.upd P v true w = false ↔ P w = false ∧ w ≠ v := by
      unfold Tj.upd
      by_cases e : w = v
      · simp [e]
      · simp [e]
    rw [hu]
    constructor
    · rintro (⟨⟨a1, a2, a3⟩, a4⟩ | ⟨a1, a2⟩)
      · exact ⟨a1, ⟨a2, a4⟩, by omega⟩
      · rw [if_pos a1] at h1
        obtain ⟨i, hi1, hi2, hi3⟩ := (g.adj v hvm w).1 a1
        have hlow := g.low (v + 1) (by omega)
        have hwm : w < m := by rw [← hi3]; exact g.fb i (by omega)
        refine ⟨hwm, ⟨?_, fun e => ?_⟩, a2⟩
        · cases hp : P w with
          | false => rfl
          | true => have := hat.done w hp; omega
        · subst e; omega
    · rintro ⟨a1, ⟨a2, a3⟩, a4⟩
      by_cases e : A v w = true
      · exact Or.inr ⟨e, a4⟩
      · rw [if_neg e] at h1
        exact Or.inl ⟨⟨a1, a2, by omega⟩, a3⟩
  cases h1 : S w <;> cases h2 : rdy A (Tj.upd P v true) m w <;> simp_all

theorem least_of {F : Nat → Nat} {n m : Nat} {S : Nat → Bool} (hi : Hp.IsH F (n + 1)) (ho : Hp.Of F (n + 1) S) (hS : ∀ x, S x = true → x < m) : fst S m = some (F 0) := by
  have h0 : S (F 0) = true := (ho.mem _).2 ⟨0, by omega, rfl⟩
  refine fst_eq (hS _ h0) h0 (fun i hi' => ?_)
  cases h : S i with
  | false => rfl
  | true =>
    obtain ⟨k, hk, e⟩ := (ho.mem i).1 h
    have := hi.least k hk
    omega
theorem none_of {F : Nat → Nat} {m : Nat} {S : Nat → Bool} (ho : Hp.Of F 0 S) : fst S m = none :=
  fst_no (fun i _ => by
    cases h : S i with
    | false => rfl
    | true => obtain ⟨k, hk, _⟩ := (ho.mem i).1 h; omega)

end Kh
end Go.Proofs.Ybulkcnjc
