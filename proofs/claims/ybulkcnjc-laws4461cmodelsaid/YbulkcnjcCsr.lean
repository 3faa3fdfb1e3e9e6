/-
  The edge lists built by counting, in plain words.
-/
import Derived.Test.YbulkcnjcTarjanMore
namespace Go.Proofs.Ybulkcnjc.Tj

def cnt (F : Nat → Nat) : Nat → Nat → Nat
  | 0, _ => 0
  | k + 1, u => cnt F k u + if F k = u then 1 else 0

def stOf (F : Nat → Nat) (m : Nat) : Nat → Nat
  | 0 => 0
  | u + 1 => stOf F m u + cnt F m u

def scOf (F T : Nat → Nat) (m : Nat) : Nat → Nat → Nat
  | 0 => fun _ => 0
  | k + 1 => upd (scOf F T m k) (stOf F m (F k) + cnt F k (F k)) (T k)

def csr (n m : Nat) (F T : Nat → Nat) : G := ⟨n, stOf F m, scOf F T m m⟩

theorem cnt_mono (F : Nat → Nat) (u : Nat) : ∀ {k m : Nat}, k ≤ m → cnt F k u ≤ cnt F m u := by
  intro k m h
  induction m with
  | zero => obtain rfl : k = 0 := by omega
            exact Nat.le_refl _
  | succ m ih =>
    by_cases e : k = m + 1
    · subst e; exact Nat.le_refl _
    · have := ih (by omega)
      simp only [cnt]
      omega

theorem cnt_lt (F : Nat → Nat) {k m : Nat} (h : k < m) : cnt F k (F k) < cnt F m (F k) := by
  have h1 : cnt F (k + 1) (F k) = cnt F k (F k) + 1 := by simp [cnt]
  have h2 := cnt_mono F (F k) (show k + 1 ≤ m by omega)
  omega

theorem cnt_le (F : Nat → Nat) (u : Nat) : ∀ k, cnt F k u ≤ k
  | 0 => Nat.le_refl _
  | k + 1 => by
    have := cnt_le F u k
    simp only [cnt]
    split <;> omega

theorem stOf_mono (F : Nat → Nat) (m : Nat) {u v : Nat} (h : u ≤ v) : stOf F m u ≤ stOf F m v := by
  induction v with
  | zero => obtain rfl : u = 0 := by omega
            exact Nat.le_refl _
  | succ v ih =>
    by_cases e : u = v + 1
    · subst e; exact Nat.le_refl _
    · have := ih (by omega)
      simp only [stOf]
      omega

theorem stOf_succ (F : Nat → Nat) (k : Nat) : ∀ n, stOf F (k + 1) n = stOf F k n + if F k < n then 1 else 0
  | 0 => by simp [stOf]
  | n + 1 => by
    simp only [stOf, cnt]
    rw [stOf_succ F k n]
    by_cases h : F k = n
    · rw [if_neg (by omega), if_pos h, if_pos (by omega)]; omega
    · rw [if_neg h]
      by_cases h2 : F k < n
      · rw [if_pos h2, if_pos (by omega)]; omega
      · rw [if_neg h2, if_neg (by omega)]; omega

theorem stOf_zero (F : Nat → Nat) : ∀ n, stOf F 0 n = 0
  | 0 => rfl
  | n + 1 => by simp only [stOf, cnt]; rw [stOf_zero F n]

theorem stOf_all (F : Nat → Nat) (n : Nat) : ∀ m, (∀ i, i < m → F i < n) → stOf F m n = m
  | 0, _ => stOf_zero F n
  | m + 1, h => by
    rw [stOf_succ, stOf_all F n m (fun i hi => h i (by omega)), if_pos (h m (by omega))]

theorem stOf_le (F : Nat → Nat) (n m : Nat) (h : ∀ i, i < m → F i < n) {u : Nat} (hu : u ≤ n) : stOf F m u ≤ m := by
  have h1 := stOf_mono F m hu
  rw [stOf_all F n m h] at h1
  exact h1

/-- the place that arc k takes -/
theorem place_lt (F : Nat → Nat) (n m : Nat) (h : ∀ i, i < m → F i < n) {k : Nat} (hk : k < m) : stOf F m (F k) + cnt F k (F k) < m := by
  have h1 := cnt_lt F hk
  have h2 : stOf F m (F k + 1) ≤ m := stOf_le F n m h (h k hk)
  simp only [stOf] at h2
  omega

/-- the counts, one further -/
def c2 (F : Nat → Nat) (k : Nat) : Nat → Nat := fun i => if i = 0 then 0 else cnt F k (i - 1)
theorem c2_zero (F : Nat → Nat) : c2 F 0 = fun _ => 0 := by funext i; simp [c2, cnt]
theorem c2_step (F : Nat → Nat) (k : Nat) : upd (c2 F k) (F k + 1) (c2 F k (F k + 1) + 1) = c2 F (k + 1) := by
  funext i
  by_cases e : i = F k + 1
  · subst e; rw [upd_same]; simp [c2, cnt]
  · rw [upd_other _ _ e]
    simp only [c2, cnt]
    by_cases e0 : i = 0
    · simp [e0]
    · rw [if_neg e0, if_neg e0, if_neg (by omega)]; rfl

/-- the sums, up to i -/
def c3 (F : Nat → Nat) (m i : Nat) : Nat → Nat := fun j => if j ≤ i then stOf F m j else c2 F m j
theorem c3_zero (F : Nat → Nat) (m : Nat) : c3 F m 0 = c2 F m := by
  funext j
  simp only [c3]
  by_cases e : j = 0
  · subst e; simp [stOf, c2]
  · rw [if_neg (by omega)]
theorem c3_step (F : Nat → Nat) (m i : Nat) : upd (c3 F m i) (i + 1) (c3 F m i (i + 1) + c3 F m i i) = c3 F m (i + 1) := by
  funext j
  by_cases e : j = i + 1
  · subst e; rw [upd_same]; simp only [c3]; rw [if_neg (by omega), if_pos (Nat.le_refl _), if_pos (Nat.le_refl _)]; simp [c2, stOf]; omega
  · rw [upd_other _ _ e]
    simp only [c3]
    by_cases e0 : j ≤ i
    · rw [if_pos e0, if_pos (by omega)]
    · rw [if_neg e0, if_neg (by omega)]
theorem c3_last (F : Nat → Nat) (m n j : Nat) (h : j ≤ n) : c3 F m n j = stOf F m j := by simp [c3, h]

/-- the cursors -/
def c4 (F : Nat → Nat) (m k : Nat) : Nat → Nat := fun u => stOf F m u + cnt F k u
theorem c4_zero (F : Nat → Nat) (m : Nat) : c4 F m 0 = stOf F m := by funext u; simp [c4, cnt]
theorem c4_step (F : Nat → Nat) (m k : Nat) : upd (c4 F m k) (F k) (c4 F m k (F k) + 1) = c4 F m (k + 1) := by
  funext u
  by_cases e : u = F k
  · subst e; rw [upd_same]; simp [c4, cnt]; omega
  · rw [upd_other _ _ e]; simp only [c4, cnt]; rw [if_neg (fun h => e h.symm)]; rfl

/-- two places of different nodes are different -/
theorem apart_places (F : Nat → Nat) (m : Nat) {u v i j : Nat} (hne : u ≠ v) (hi : i < cnt F m u) (hj : j < cnt F m v) : stOf F m u + i ≠ stOf F m v + j := by
  rcases Nat.lt_or_ge u v with h | h
  · have h1 := stOf_mono F m (show u + 1 ≤ v from h)
    simp only [stOf] at h1
    omega
  · have h1 := stOf_mono F m (show v + 1 ≤ u by omega)
    simp only [stOf] at h1
    omega

theorem sc_inv (F T : Nat → Nat) (m : Nat) : ∀ k, k ≤ m →
    (∀ u j, j < cnt F k u → ∃ i, i < k ∧ F i = u ∧ scOf F T m k (stOf F m u + j) = T i) ∧
    (∀ i, i < k → ∃ j, j < cnt F k (F i) ∧ scOf F T m k (stOf F m (F i) + j) = T i)
  | 0, _ => ⟨fun u j h => by simp [cnt] at h, fun i h => absurd h (Nat.not_lt_zero _)⟩
  | k + 1, hk => by
    obtain ⟨h1, h2⟩ := sc_inv F T m k (by omega)
    have hlt := cnt_lt F (show k < m by omega)
    have old : ∀ u j, j < cnt F k u → scOf F T m (k + 1) (stOf F m u + j) = scOf F T m k (stOf F m u + j) := by
      intro u j hj
      simp only [scOf]
      refine upd_other _ _ ?_
      by_cases e : u = F k
      · subst e; omega
      · exact apart_places F m e (Nat.lt_of_lt_of_le hj (cnt_mono F u (by omega))) hlt
    have new : scOf F T m (k + 1) (stOf F m (F k) + cnt F k (F k)) = T k := by simp only [scOf]; rw [upd_same]
    refine ⟨fun u j hj => ?_, fun i hi => ?_⟩
    · by_cases hj' : j < cnt F k u
      · obtain ⟨i, hi, hf, hs⟩ := h1 u j hj'
        exact ⟨i, by omega, hf, (old u j hj').trans hs⟩
      · simp only [cnt] at hj
        by_cases e : F k = u
        · rw [if_pos e] at hj
          obtain rfl : j = cnt F k u := by omega
          subst e
          exact ⟨k, by omega, rfl, new⟩
        · rw [if_neg e] at hj; omega
    · by_cases e : i = k
      · subst e
        exact ⟨cnt F i (F i), by simp [cnt], new⟩
      · obtain ⟨j, hj, hs⟩ := h2 i (by omega)
        exact ⟨j, Nat.lt_of_lt_of_le hj (cnt_mono F _ (by omega)), (old _ _ hj).trans hs⟩

theorem csr_E (n m : Nat) (F T : Nat → Nat) (u w : Nat) : (csr n m F T).E u w ↔ ∃ i, i < m ∧ F i = u ∧ T i = w := by
  obtain ⟨h1, h2⟩ := sc_inv F T m m (Nat.le_refl _)
  constructor
  · rintro ⟨c, hc1, hc2, hc3⟩
    have hc1' : stOf F m u ≤ c := hc1
    have hc2' : c < stOf F m u + cnt F m u := hc2
    obtain ⟨i, hi, hf, hs⟩ := h1 u (c - stOf F m u) (by omega)
    rw [show stOf F m u + (c - stOf F m u) = c by omega] at hs
    exact ⟨i, hi, hf, hs.symm.trans hc3⟩
  · rintro ⟨i, hi, rfl, rfl⟩
    obtain ⟨j, hj, hs⟩ := h2 i hi
    exact ⟨stOf F m (F i) + j, Nat.le_add_right _ _, by show _ < stOf F m (F i) + cnt F m (F i); omega, hs⟩

theorem csr_ok (n m : Nat) (F T : Nat → Nat) (hT : ∀ i, i < m → T i < n) : (csr n m F T).Ok := by
  intro u c _ hc1 hc2
  obtain ⟨i, hi, _, ht⟩ := (csr_E n m F T u ((csr n m F T).sc c)).1 ⟨c, hc1, hc2, rfl⟩
  rw [← ht]
  exact hT i hi

/-! ### the closure -/

/-- the matrix behind the diagonal and the first k arcs -/
def r0 (F T : Nat → Nat) (k : Nat) : Nat → Nat → Bool := fun a x => decide (a = x) || (List.range k).any (fun i => decide (F i = a) && decide (T i = x))

theorem r0_iff (F T : Nat → Nat) (k a x : Nat) : r0 F T k a x = true ↔ a = x ∨ ∃ i, i < k ∧ F i = a ∧ T i = x := by
  simp [r0]

theorem r0_reach (n m : Nat) (F T : Nat → Nat) (hT : ∀ i, i < m → T i < n) {a x : Nat} (ha : a < n) : Wst (r0 F T m) n a x = true ↔ Reach (csr n m F T) a x :=
  Wst_iff (g := csr n m F T) (csr_ok n m F T hT) (fun a x h => by
      rcases (r0_iff F T m a x).1 h with h | h
      · exact Or.inl h
      · exact Or.inr ((csr_E n m F T a x).2 h))
    (fun a _ => (r0_iff F T m a a).2 (Or.inl rfl)) (fun a x _ h => (r0_iff F T m a x).2 (Or.inr ((csr_E n m F T a x).1 h))) ha

end Go.Proofs.Ybulkcnjc.Tj
