/-
  container/heap over a row of numbers, plainly.
-/
import Derived.Test.YbulkcnjcLawMem
namespace Go.Proofs.Ybulkcnjc
namespace Hp

def swp (F : Nat → Nat) (i j : Nat) : Nat → Nat := fun k => if k = i then F j else if k = j then F i else F k
def par (k : Nat) : Nat := (k - 1) / 2

/-- a heap of n -/
def IsH (F : Nat → Nat) (n : Nat) : Prop := ∀ k, 0 < k → k < n → F (par k) ≤ F k

theorem IsH.least {F : Nat → Nat} {n : Nat} (h : IsH F n) : ∀ k, k < n → F 0 ≤ F k := by
  intro k
  induction k using Nat.strongRecOn with
  | _ k ih =>
    intro hk
    by_cases h0 : k = 0
    · subst h0; exact Nat.le_refl _
    · have h1 : par k < k := by unfold par; omega
      exact Nat.le_trans (ih _ h1 (by omega)) (h k (by omega) hk)

/-- a heap but for the children of i -/
structure Dn (F : Nat → Nat) (n i : Nat) : Prop where
  rest : ∀ k, 0 < k → k < n → par k ≠ i → F (par k) ≤ F k
  up : 0 < i → ∀ k, 0 < k → k < n → par k = i → F (par i) ≤ F k

theorem Dn.stop {F : Nat → Nat} {n i : Nat} (h : Dn F n i) (h1 : 2 * i + 1 < n → F i ≤ F (2 * i + 1)) (h2 : 2 * i + 2 < n → F i ≤ F (2 * i + 2)) : IsH F n := by
  intro k hk hn
  by_cases e : par k = i
  · have : k = 2 * i + 1 ∨ k = 2 * i + 2 := by unfold par at e; omega
    rw [e]
    rcases this with rfl | rfl
    · exact h1 hn
    · exact h2 hn
  · exact h.rest k hk hn e

theorem Dn.step {F : Nat → Nat} {n i j : Nat} (h : Dn F n i) (hj : par j = i) (h0 : 0 < j) (hn : j < n) (hlt : F j < F i) (hmin : ∀ k, 0 < k → k < n → par k = i → F j ≤ F k) : Dn (swp F i j) n j := by
  have hij : i < j := by unfold par at hj; omega
  have pj : ∀ k, 0 < k → par k < k := fun k hk => by unfold par; omega
  refine ⟨fun k hk hkn hp => ?_, fun _ k hk hkn hp => ?_⟩
  · by_cases e1 : par k = i
    · -- a child of i
      have e2 : swp F i j (par k) = F j := by simp [swp, e1]
      rw [e2]
      by_cases e3 : k = j
      · subst e3
        have : swp F i k k = F i := by simp [swp, show k ≠ i by omega]
        rw [this]
        omega
      · have : swp F i j k = F k := by
          have : k ≠ i := by have := pj k hk; omega
          simp [swp, this, e3]
        rw [this]
        exact hmin k hk hkn e1
    · have e2 : swp F i j (par k) = F (par k) := by simp [swp, e1, hp]
      rw [e2]
      by_cases e3 : k = i
      · subst e3
        have : swp F k j k = F j := by simp [swp]
        rw [this]
        exact h.up hk j h0 hn hj
      · by_cases e4 : k = j
        · subst e4; exact absurd hj e1
        · have : swp F i j k = F k := by simp [swp, e3, e4]
          rw [this]
          exact h.rest k hk hkn e1
  · have e1 : swp F i j (par j) = F j := by simp [swp, hj]
    rw [e1]
    have hk1 : j < k := by have := pj k hk; omega
    have : swp F i j k = F k := by
      have a : k ≠ i := by omega
      have b : k ≠ j := by omega
      simp [swp, a, b]
    rw [this]
    have := h.rest k hk hkn (by omega)
    rwa [hp] at this

/-- a heap but for j and what is above it -/
structure Up (F : Nat → Nat) (n j : Nat) : Prop where
  rest : ∀ k, 0 < k → k < n → k ≠ j → F (par k) ≤ F k
  down : 0 < j → ∀ k, 0 < k → k < n → par k = j → F (par j) ≤ F k

theorem Up.stop {F : Nat → Nat} {n j : Nat} (h : Up F n j) (h1 : 0 < j → F (par j) ≤ F j) : IsH F n := by
  intro k hk hn
  by_cases e : k = j
  · subst e; exact h1 hk
  · exact h.rest k hk hn e

theorem Up.step {F : Nat → Nat} {n j : Nat} (h : Up F n j) (h0 : 0 < j) (hn : j < n) (hlt : F j < F (par j)) : Up (swp F (par j) j) n (par j) := by
  have pj : ∀ k, 0 < k → par k < k := fun k hk => by unfold par; omega
  have hij := pj j h0
  refine ⟨fun k hk hkn hp => ?_, fun hi k hk hkn hp => ?_⟩
  · by_cases e1 : k = j
    · subst e1
      have a : swp F (par k) k (par k) = F k := by simp [swp]
      have b : swp F (par k) k k = F (par k) := by simp [swp, show k ≠ par k by omega]
      rw [a, b]
      omega
    · have b : swp F (par j) j k = F k := by simp [swp, hp, e1]
      rw [b]
      by_cases e2 : par k = par j
      · have a : swp F (par j) j (par k) = F j := by simp [swp, e2]
        rw [a]
        have := h.rest k hk hkn e1
        rw [e2] at this
        omega
      · by_cases e3 : par k = j
        · have a : swp F (par j) j (par k) = F (par j) := by simp [swp, e3, show j ≠ par j by omega]
          rw [a]
          exact h.down h0 k hk hkn e3
        · have a : swp F (par j) j (par k) = F (par k) := by simp [swp, e2, e3]
          rw [a]
          exact h.rest k hk hkn e1
  · -- k a child of par j
    have a : swp F (par j) j (par (par j)) = F (par (par j)) := by
      have := pj (par j) hi
      simp [swp, show par (par j) ≠ par j by omega, show par (par j) ≠ j by omega]
    rw [a]
    have hpp := h.rest (par j) hi (by omega) (by omega)
    by_cases e1 : k = j
    · subst e1
      have b : swp F (par k) k k = F (par k) := by simp [swp, show k ≠ par k by omega]
      rw [b]
      exact hpp
    · have hk2 : k ≠ par j := by have := pj k hk; omega
      have b : swp F (par j) j k = F k := by simp [swp, hk2, e1]
      rw [b]
      have := h.rest k hk hkn e1
      rw [hp] at this
      omega

/-- the numbers of the row are the members of S, each once -/
structure Of (F : Nat → Nat) (n : Nat) (S : Nat → Bool) : Prop where
  inj : ∀ i j, i < n → j < n → F i = F j → i = j
  mem : ∀ x, S x = true ↔ ∃ i, i < n ∧ F i = x

theorem Of.swap {F : Nat → Nat} {n : Nat} {S : Nat → Bool} (h : Of F n S) {i j : Nat} (hi : i < n) (hj : j < n) : Of (swp F i j) n S := by
  have key : ∀ k, k < n → ∃ k', k' < n ∧ swp F i j k = F k' ∧ (k' = if k = i then j else if k = j then i else k) := by
    intro k hk
    by_cases e1 : k = i
    · exact ⟨j, hj, by simp [swp, e1], by simp [e1]⟩
    · by_cases e2 : k = j
      · subst e2; exact ⟨i, hi, by simp [swp, e1], by simp [e1]⟩
      · exact ⟨k, hk, by simp [swp, e1, e2], by simp [e1, e2]⟩
  refine ⟨fun a b ha hb he => ?_, fun x => ?_⟩
  · obtain ⟨a', ha', ea, qa⟩ := key a ha
    obtain ⟨b', hb', eb, qb⟩ := key b hb
    rw [ea, eb] at he
    have := h.inj a' b' ha' hb' he
    rw [qa, qb] at this
    by_cases a1 : a = i <;> by_cases a2 : a = j <;> by_cases b1 : b = i <;> by_cases b2 : b = j <;> simp_all
  · rw [h.mem]
    constructor
    · rintro ⟨k, hk, rfl⟩
      by_cases e1 : k = i
      · refine ⟨j, hj, ?_⟩
        by_cases e : j = i
        · simp [swp, e, e1]
        · simp [swp, e, e1]
      · by_cases e2 : k = j
        · exact ⟨i, hi, by simp [swp, e2]⟩
        · exact ⟨k, hk, by simp [swp, e1, e2]⟩
    · rintro ⟨k, hk, rfl⟩
      obtain ⟨k', hk', ek, _⟩ := key k hk
      exact ⟨k', hk', ek.symm⟩

def rem (S : Nat → Bool) (v : Nat) : Nat → Bool := fun x => S x && !decide (x = v)
def ins (S : Nat → Bool) (v : Nat) : Nat → Bool := fun x => S x || decide (x = v)

theorem Of.pop {F : Nat → Nat} {n : Nat} {S : Nat → Bool} (h : Of F (n + 1) S) : Of F n (rem S (F n)) := by
  refine ⟨fun i j hi hj => h.inj i j (by omega) (by omega), fun x => ?_⟩
  unfold rem
  simp only [Bool.and_eq_true, Bool.not_eq_true', decide_eq_false_iff_not, h.mem]
  constructor
  · rintro ⟨⟨i, hi, rfl⟩, hne⟩
    exact ⟨i, by rcases Nat.lt_or_ge i n with h | h; exact h; exact absurd (congrArg F (show i = n by omega)) hne, rfl⟩
  · rintro ⟨i, hi, rfl⟩
    exact ⟨⟨i, by omega, rfl⟩, fun e => by have := h.inj i n (by omega) (by omega) e; omega⟩

theorem Of.push {F : Nat → Nat} {n : Nat} {S : Nat → Bool} (h : Of F n S) {x : Nat} (hx : S x = false) : Of (fun k => if k = n then x else F k) (n + 1) (ins S x) := by
  have hne : ∀ i, i < n → F i ≠ x := fun i hi e => by have := (h.mem x).2 ⟨i, hi, e⟩; rw [hx] at this; cases this
  refine ⟨fun i j hi hj he => ?_, fun y => ?_⟩
  · by_cases e1 : i = n <;> by_cases e2 : j = n
    · omega
    · simp [e1, e2] at he; exact absurd he.symm (hne j (by omega))
    · simp [e1, e2] at he; exact absurd he (hne i (by omega))
    · simp [e1, e2] at he; exact h.inj i j (by omega) (by omega) he
  · unfold ins
    simp only [Bool.or_eq_true, decide_eq_true_eq, h.mem]
    constructor
    · rintro (⟨i, hi, rfl⟩ | rfl)
      · exact ⟨i, by omega, by simp [show i ≠ n by omega]⟩
      · exact ⟨n, by omega, by simp⟩
    · rintro ⟨i, hi, rfl⟩
      by_cases e : i = n
      · exact Or.inr (by simp [e])
      · exact Or.inl ⟨i, by omega, by simp [e]⟩

theorem Up.push {F : Nat → Nat} {n : Nat} (h : IsH F n) (x : Nat) : Up (fun k => if k = n then x else F k) (n + 1) n := by
  refine ⟨fun k hk hkn hne => ?_, fun h0 k hk hkn hp => ?_⟩
  · have : par k < k := by unfold par; omega
    simp [show par k ≠ n by omega, hne]
    exact h k hk (by omega)
  · have : par k < k := by unfold par; omega
    omega

theorem Dn.start {F : Nat → Nat} {n : Nat} (h : IsH F (n + 1)) : Dn (swp F 0 n) n 0 := by
  refine ⟨fun k hk hkn hp => ?_, fun h0 => absurd h0 (Nat.lt_irrefl _)⟩
  have : par k < k := by unfold par; omega
  have a : swp F 0 n (par k) = F (par k) := by simp [swp, hp, show par k ≠ n by omega]
  have b : swp F 0 n k = F k := by simp [swp, show k ≠ 0 by omega, show k ≠ n by omega]
  rw [a, b]
  exact h k hk (by omega)

end Hp
end Go.Proofs.Ybulkcnjc
