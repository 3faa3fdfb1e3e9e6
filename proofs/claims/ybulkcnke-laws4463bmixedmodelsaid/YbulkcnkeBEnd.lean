/-
  From the build to the process; the two plain functions.
-/
import Derived.Test.YbulkcnkeBSame
import Derived.Test.YbulkcnkeBBMem
namespace Go.Proofs.Ybulkcnke
open Go.RowKit Go.Maps
set_option linter.unusedVariables false

/-- a function that hangs on its values below alone has a solution -/
theorem exists_fix {α : Type} (d : α) (F : (Nat → α) → Nat → α) (hF : ∀ f g i, (∀ j, j < i → f j = g j) → F f i = F g i) : ∃ f, ∀ i, f i = F f i := by
  let g : Nat → Nat → α := fun k => Nat.rec (fun _ => d) (fun _ r i => F r i) k
  have hg : ∀ k i, g (k + 1) i = F (g k) i := fun _ _ => rfl
  have key : ∀ i k, i < k → g k i = g (i + 1) i := by
    intro i
    induction i using Nat.strongRecOn with
    | _ i ih =>
      intro k hk
      obtain ⟨m, rfl⟩ : ∃ m, k = m + 1 := ⟨k - 1, by omega⟩
      rw [hg, hg]
      refine hF _ _ i (fun j hj => ?_)
      rw [ih j hj m (by omega), ih j hj i hj]
  refine ⟨fun i => g (i + 1) i, fun i => ?_⟩
  show g (i + 1) i = _
  rw [hg]
  exact hF _ _ i (fun j hj => key j i hj)

theorem aftOf_lt (I : In) (i a : Nat) (h : a ∈ aftOf I i) : a < i := by
  unfold aftOf at h
  by_cases e : i = 0
  · rw [if_pos e] at h; simp at h
  · rw [if_neg e] at h
    obtain ⟨j, _, rfl⟩ := List.mem_map.1 h
    exact Nat.mod_lt _ (by omega)
theorem aftOf_length (I : In) (i : Nat) : (aftOf I i).length ≤ I.la i := by
  unfold aftOf
  by_cases e : i = 0
  · rw [if_pos e]; simp
  · rw [if_neg e]; simp

theorem any_congr {l : List Nat} {f g : Nat → Bool} (h : ∀ a ∈ l, f a = g a) : l.any f = l.any g := by
  induction l with
  | nil => rfl
  | cons a l ih => rw [List.any_cons, List.any_cons, h a (by simp), ih (fun b hb => h b (by simp [hb]))]
theorem all_congr {l : List Nat} {f g : Nat → Bool} (h : ∀ a ∈ l, f a = g a) : l.all f = l.all g := by
  induction l with
  | nil => rfl
  | cons a l ih => rw [List.all_cons, List.all_cons, h a (by simp), ih (fun b hb => h b (by simp [hb]))]

theorem exists_sk (p : Pr) (h : ∀ i, ∀ a ∈ p.aft i, a < i) : ∃ sk : Nat → Bool, ∀ i, sk i = skF p sk i := by
  refine exists_fix false (skF p) (fun f g i hfg => ?_)
  unfold skF
  rw [any_congr (l := p.aft i) (f := f) (g := g) (fun a ha => hfg a (h i a ha)), all_congr (l := p.aft i) (f := f) (g := g) (fun a ha => hfg a (h i a ha))]

theorem exists_su (p : Pr) (sk : Nat → Bool) (h : ∀ i, ∀ a ∈ p.aft i, a < i) : ∃ su : Nat → Nat → Bool, ∀ i c, su i c = suF p sk su i c := by
  obtain ⟨su, hsu⟩ := exists_fix (fun _ => false) (fun su i c => suF p sk su i c) (fun f g i hfg => by
    funext c
    unfold suF
    have e : ∀ a ∈ p.aft i, ldF f a c = ldF g a c := fun a ha => by unfold ldF; rw [hfg a (h i a ha)]
    rw [any_congr (l := p.aft i) (f := fun a => ldF f a c && (decide (p.jn i = 0) || !sk a)) (g := fun a => ldF g a c && (decide (p.jn i = 0) || !sk a)) (fun a ha => by rw [e a ha]), all_congr (l := p.aft i) e])
  exact ⟨su, fun i c => congrFun (hsu i) c⟩

theorem su_lt (p : Pr) (sk : Nat → Bool) (su : Nat → Nat → Bool) (h : ∀ i, ∀ a ∈ p.aft i, a < i) (hsu : ∀ i c, su i c = suF p sk su i c) : ∀ i c, su i c = true → c < i := by
  intro i
  induction i using Nat.strongRecOn with
  | _ i ih =>
    intro c hc
    have hl : ∀ a ∈ p.aft i, ldF su a c = true → c < i := fun a ha hd => by
      have := h i a ha
      unfold ldF at hd
      simp only [Bool.or_eq_true, decide_eq_true_eq] at hd
      rcases hd with rfl | hd
      · exact this
      · have := ih a this c hd; omega
    rw [hsu] at hc
    unfold suF at hc
    simp only [Bool.or_eq_true, Bool.and_eq_true, List.any_eq_true, List.all_eq_true] at hc
    rcases hc with ⟨a, ha, hd, _⟩ | ⟨hne, hall⟩
    · exact hl a ha hd
    · cases hA : p.aft i with
      | nil => rw [hA] at hne; simp at hne
      | cons a l => exact hl a (by rw [hA]; simp) (hall a (by rw [hA]; simp))

/-- the process that was built -/
def prOf (I : In) (n : Nat) (aj : Bool) (pP pS H base : Nat) : Pr := ⟨n, aftOf I, thnOf I n, jnOf I aj, pP, pS, H, base⟩

/-- 'aft' and 'then', as they lie -/
def AftAt (I : In) (n aA : Nat) (w : World) : Prop :=
  ∀ i, i < n → ∃ a cap b, w.cell? ⟨aA, i, none⟩ = some (.slice a (aftOf I i).length cap) ∧ ∀ j, (h : j < (aftOf I i).length) → a = some ⟨b, 0, none⟩ ∧ w.cell? ⟨b, j, none⟩ = some (.int .i64 ((aftOf I i)[j] : Int))
def ThnAt (I : In) (n aT rB : Nat) (w : World) : Prop :=
  ∀ i, i < n → w.cell? ⟨aT, i, none⟩ = some (.slice (some ⟨rB + i, 0, none⟩) n n) ∧ ∀ k, k < n → w.cell? ⟨rB + i, k, none⟩ = some (.bool (decide (k ∈ thnOf I n i)))

theorem below_cell {w w' : World} (hb : Below w.heap.size w w') {a : Addr} {v : Value} (h : w.cell? a = some v) : w'.cell? a = some v := (hb.cell (World.block_lt_of_cell? w a h)).trans h

theorem AftAt.below {I : In} {n aA : Nat} {w w' : World} (h : AftAt I n aA w) (hb : Below w.heap.size w w') : AftAt I n aA w' := fun i hi => by
  obtain ⟨a, cap, b, h1, h2⟩ := h i hi
  exact ⟨a, cap, b, below_cell hb h1, fun j hj => let ⟨x, y⟩ := h2 j hj; ⟨x, below_cell hb y⟩⟩
theorem ThnAt.below {I : In} {n aT rB : Nat} {w w' : World} (h : ThnAt I n aT rB w) (hb : Below w.heap.size w w') : ThnAt I n aT rB w' := fun i hi => by
  obtain ⟨h1, h2⟩ := h i hi
  exact ⟨below_cell hb h1, fun k hk => below_cell hb (h2 k hk)⟩

theorem BI.end {I : In} {n : Nat} {aj : Bool} {H pP pS aA aT rB : Nat} {w0 w : World} (h : BI I n aj H pP pS aA aT rB w0 n w) (ok : BOk H pP pS aA aT rB) (hn : n ≤ 48) (hl : ∀ i, i < n → I.la i ≤ 1024 ∧ I.lt i ≤ 1024) :
    (prOf I n aj pP pS H w.heap.size).Ok ∧ PAt (prOf I n aj pP pS H w.heap.size) w ∧ AftAt I n aA w ∧ ThnAt I n aT rB w := by
  obtain ⟨CP, hCP, hP1, hP6⟩ := h.p
  obtain ⟨CS, hCS, hSn, hSr⟩ := h.s
  refine ⟨⟨hn, fun i _ a ha => aftOf_lt I i a ha, fun i hi => Nat.le_trans (aftOf_length I i) (hl i hi).1, fun i hi t ht => ?_, fun i hi => ?_, hCP.lt, hCS.lt, h.m.lt⟩, ⟨Nat.le_refl _, ?_, ?_, h.m, fun i hi => ?_⟩, fun i hi => ?_, fun i hi => ⟨?_, fun k hk => ?_⟩⟩
  · obtain ⟨j, _, rfl⟩ := List.mem_map.1 ht
    have hi' : i < n := hi
    exact Nat.mod_lt _ (by omega)
  · show (thnOf I n i).length ≤ 1024
    have := (hl i hi).2
    simpa [thnOf] using this
  · show w.cell? ⟨pP, 1, none⟩ = _
    rw [hCP.cell, hP1]; rfl
  · show w.cell? ⟨pP, 6, none⟩ = _
    rw [hCP.cell, hP6]; rfl
  · have s := hSr i hi
    refine ⟨?_, ?_, ?_, ?_, ?_, ?_⟩
    · exact (hCS.cell _).trans s.id
    · obtain ⟨v, h1, h2⟩ := s.aft
      exact ⟨v, (hCS.cell _).trans h1, h2.sl⟩
    · exact (hCS.cell _).trans s.join
    · exact (hCS.cell _).trans s.kind
    · obtain ⟨v, h1, h2⟩ := s.ch
      exact ⟨v, (hCS.cell _).trans h1, h2.ch⟩
    · exact (hCS.cell _).trans s.al
  · obtain ⟨C, hC, hs, hz, hr⟩ := h.a
    obtain ⟨v, h1, a, cap, b, rfl, h2⟩ := hr i hi
    rw [numL_length] at h1
    refine ⟨a, cap, b, (hC.cell _).trans h1, fun j hj => ?_⟩
    obtain ⟨x, _, y⟩ := h2 j (by rw [numL_length]; exact hj)
    refine ⟨x, y.trans ?_⟩
    simp [numL]
  · rw [h.t.cell, vals_at _ _ _ hi]
  · rw [(h.r i hi).cell, vals_at _ _ _ hk]
    simp [hi]

end Go.Proofs.Ybulkcnke
