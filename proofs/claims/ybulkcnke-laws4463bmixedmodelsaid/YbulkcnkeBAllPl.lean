/-
  LawS4463BAllJoinAncestors: the search, plainly; and an append of a whole slice.
-/
import Derived.Test.YbulkcnkeBEnd
import Derived.Test.YbulkcnkeBBuild
namespace Go.Proofs.Ybulkcnke
open Go.RowKit Go.Maps
set_option linter.unusedVariables false

/-! ### the search -/
def updB (f : Nat → Bool) (a : Nat) : Nat → Bool := fun c => if c = a then true else f c

def muS (A : Nat → List Nat) (seen : Nat → Bool) : Nat → Nat
  | 0 => 0
  | n + 1 => muS A seen n + (if seen n then 0 else (A n).length + 1)
theorem muS_upd (A : Nat → List Nat) (seen : Nat → Bool) (a : Nat) (hs : seen a = false) : ∀ n, muS A (updB seen a) n + (if a < n then (A a).length + 1 else 0) = muS A seen n
  | 0 => by simp [muS]
  | n + 1 => by
    have ih := muS_upd A seen a hs n
    simp only [muS]
    by_cases e : n = a
    · subst e
      rw [if_pos (Nat.lt_succ_self _)]
      rw [if_neg (Nat.lt_irrefl _)] at ih
      simp [updB, hs]
      omega
    · have : updB seen a n = seen n := by simp [updB, e]
      rw [this]
      have e2 : (if a < n + 1 then (A a).length + 1 else 0) = if a < n then (A a).length + 1 else 0 := by
        by_cases h : a < n
        · rw [if_pos h, if_pos (by omega)]
        · rw [if_neg h, if_neg (by omega)]
      rw [e2]
      omega

/-- what holds while the search goes on: R: the true ancestors of i -/
structure DI (A : Nat → List Nat) (n i : Nat) (R : Nat → Nat → Bool) (seen : Nat → Bool) (st : List Nat) : Prop where
  hst : ∀ x ∈ st, x < n ∧ R i x = true
  hseen : ∀ x, seen x = true → R i x = true
  first : ∀ a ∈ A i, seen a = true ∨ a ∈ st
  closed : ∀ x, seen x = true → ∀ y ∈ A x, seen y = true ∨ y ∈ st

/-- R is 'comes after, at last' -/
structure IsAnc (A : Nat → List Nat) (R : Nat → Nat → Bool) : Prop where
  lt : ∀ i, ∀ a ∈ A i, a < i
  eq : ∀ i c, R i c = true ↔ ∃ a ∈ A i, c = a ∨ R a c = true

theorem IsAnc.trans {A : Nat → List Nat} {R : Nat → Nat → Bool} (h : IsAnc A R) : ∀ i x y, R i x = true → R x y = true → R i y = true := by
  intro i
  induction i using Nat.strongRecOn with
  | _ i ih =>
    intro x y hx hy
    obtain ⟨a, ha, hax⟩ := (h.eq i x).1 hx
    refine (h.eq i y).2 ⟨a, ha, Or.inr ?_⟩
    rcases hax with rfl | hax
    · exact hy
    · exact ih a (h.lt i a ha) x y hax hy

theorem IsAnc.inside {A : Nat → List Nat} {R : Nat → Nat → Bool} (h : IsAnc A R) {S : Nat → Bool} (hcl : ∀ x, S x = true → ∀ y ∈ A x, S y = true) : ∀ i, (∀ a ∈ A i, S a = true) → ∀ c, R i c = true → S c = true := by
  intro i
  induction i using Nat.strongRecOn with
  | _ i ih =>
    intro hf c hc
    obtain ⟨a, ha, hax⟩ := (h.eq i c).1 hc
    rcases hax with rfl | hax
    · exact hf _ ha
    · exact ih a (h.lt i a ha) (hcl a (hf a ha)) c hax

theorem DI.start {A : Nat → List Nat} {n i : Nat} {R : Nat → Nat → Bool} (h : IsAnc A R) (hi : i ≤ n) : DI A n i R (fun _ => false) (A i) :=
  ⟨fun x hx => ⟨by have := h.lt i x hx; omega, (h.eq i x).2 ⟨x, hx, Or.inl rfl⟩⟩, fun x hx => (by cases hx), fun a ha => Or.inr ha, fun x hx => (by cases hx)⟩

theorem DI.skip {A : Nat → List Nat} {n i : Nat} {R : Nat → Nat → Bool} {seen : Nat → Bool} {st : List Nat} {a : Nat} (h : DI A n i R seen (st ++ [a])) (hs : seen a = true) : DI A n i R seen st := by
  have key : ∀ y, (seen y = true ∨ y ∈ st ++ [a]) → seen y = true ∨ y ∈ st := fun y hy => by
    rcases hy with hy | hy
    · exact Or.inl hy
    · rcases List.mem_append.1 hy with hy | hy
      · exact Or.inr hy
      · rw [List.mem_singleton.1 hy]; exact Or.inl hs
  exact ⟨fun x hx => h.hst x (by simp [hx]), h.hseen, fun b hb => key b (h.first b hb), fun x hx y hy => key y (h.closed x hx y hy)⟩

theorem DI.visit {A : Nat → List Nat} {n i : Nat} {R : Nat → Nat → Bool} {seen : Nat → Bool} {st : List Nat} {a : Nat} (h : DI A n i R seen (st ++ [a])) (hA : IsAnc A R) : DI A n i R (updB seen a) (st ++ A a) := by
  have ha := h.hst a (by simp)
  have key : ∀ y, (seen y = true ∨ y ∈ st ++ [a]) → updB seen a y = true ∨ y ∈ st ++ A a := fun y hy => by
    by_cases e : y = a
    · exact Or.inl (by simp [updB, e])
    · rcases hy with hy | hy
      · exact Or.inl (by simp [updB, e, hy])
      · rcases List.mem_append.1 hy with hy | hy
        · exact Or.inr (by simp [hy])
        · exact absurd (List.mem_singleton.1 hy) e
  refine ⟨fun x hx => ?_, fun x hx => ?_, fun b hb => key b (h.first b hb), fun x hx y hy => ?_⟩
  · rcases List.mem_append.1 hx with hx | hx
    · exact h.hst x (by simp [hx])
    · have h1 := hA.lt a x hx
      exact ⟨by omega, hA.trans i a x ha.2 ((hA.eq a x).2 ⟨x, hx, Or.inl rfl⟩)⟩
  · by_cases e : x = a
    · subst e; exact ha.2
    · exact h.hseen x (by simpa [updB, e] using hx)
  · by_cases e : x = a
    · subst e; exact Or.inr (by simp [hy])
    · exact key y (h.closed x (by simpa [updB, e] using hx) y hy)

theorem DI.done {A : Nat → List Nat} {n i : Nat} {R : Nat → Nat → Bool} {seen : Nat → Bool} (h : DI A n i R seen []) (hA : IsAnc A R) (c : Nat) : seen c = R i c := by
  rw [Bool.eq_iff_iff]
  refine ⟨h.hseen c, fun hc => ?_⟩
  exact hA.inside (fun x hx y hy => by rcases h.closed x hx y hy with h | h; exact h; cases h) i (fun a ha => by rcases h.first a ha with h | h; exact h; cases h) c hc

/-! ### append(s, x...) of numbers -/
theorem owns_shape {w : World} {base : Nat} {e : TypeId} {v : Value} {n : Nat} {xs : List Value} (h : w.ownsRow base e 1 v n xs) : ∃ a cap, v = .slice a n cap ∧ n ≤ cap ∧ cap ≤ maxLen ∧ (a = none → cap = 0) := by
  rcases h.2 with ⟨h1, h2⟩ | ⟨g, cap, cur, h1, h2, h3, h4, h5, _⟩
  · exact ⟨none, 0, by rw [h1, h2], by omega, by simp, fun _ => rfl⟩
  · exact ⟨_, cap, h1, h4, h5, fun e => by cases e⟩

theorem run_append_seg (w : World) (ty base : Nat) (v : Value) (n : Nat) (xs : List Value) (hown : w.ownsRow base 3 1 v n xs) (sa : Option Addr) (m c : Nat) (news : List Value) (hl : news.length = m)
    (hnews : ∃ b, ∀ j, (h : j < news.length) → sa = some ⟨b, 0, none⟩ ∧ w.cell? ⟨b, j, none⟩ = some news[j]) (h1 : ∀ u ∈ news, u.oneCell' = true) (hb : n + m ≤ 1048576) (hbase : base ≤ w.heap.size) :
    ∃ ta tc w', (Builtin.append_ #[38, 38] ty #[v, .slice sa m c]).run Yba.prog w = .ok (.slice ta (n + m) tc) w' ∧ w'.ownsRow base 3 1 (.slice ta (n + m) tc) (n + m) (xs ++ news) ∧ w.grownBy w' v.ownBlock := by
  obtain ⟨i, hi, hz0, hz1, hz2⟩ := info_parts info3
  obtain ⟨b, hnews⟩ := hnews
  by_cases hs : sa = none
  · subst hs
    have hm : m = 0 := by
      rcases Nat.eq_zero_or_pos m with h | h
      · exact h
      · exact absurd (hnews 0 (by omega)).1 (by simp)
    subst hm
    obtain rfl : news = [] := List.eq_nil_of_length_eq_zero hl
    rcases hown.2 with ⟨rfl, rfl⟩ | ⟨g, cap, cur, rfl, _, hg, hnc, _⟩
    · refine ⟨none, 0, w, ?_, by simpa using hown, grown_refl _ _⟩
      simp [Builtin.append_, run_underlying Yba.underlying38, sizeOf, typeInfo, hi, Builtin.lenOf, Builtin.firstCells]
    · refine ⟨some ⟨g, 0, none⟩, cap, w, ?_, by simpa using hown, grown_refl _ _⟩
      simp [Builtin.append_, run_underlying Yba.underlying38, sizeOf, typeInfo, hi, Builtin.lenOf, Builtin.firstCells, hnc, storeCells]
  · obtain ⟨ad, rfl⟩ := Option.ne_none_iff_exists'.1 hs
    have hn' : ∀ j u, news[j]? = some u → w.cell? (ad.add j) = some u := fun j u hu => by
      obtain ⟨hj, rfl⟩ := List.getElem?_eq_some_iff.1 hu
      obtain ⟨e, hc⟩ := hnews j hj
      cases e
      have add : (⟨b, 0, none⟩ : Addr).add j = ⟨b, j, none⟩ := by unfold Addr.add; split <;> simp_all
      rw [add]
      exact hc
    obtain ⟨v', w', hr, h2, h3, _, _⟩ := run_append_own_at (P := Yba.prog) w base 38 ty 3 i (.int .i64 0) 1 8 Yba.underlying38 hi hz0 hz1 hz2 rfl (by decide) v n xs hown ad m c news (by omega) hn' h1 (by unfold maxLen; omega) (by omega) hbase
    obtain ⟨ta, tc, rfl, _⟩ := owns_shape h2
    exact ⟨ta, tc, w', hr, h2, h3⟩

theorem wpList_append_seg (w : World) {ops : Array Oper} {rest : List Oper} {o : Oper} {a : Act} {Q : Exit → Act → World → Prop} (hgd : o.guard = none) (s x : Operand)
    (ho : o.op = .call { callee := .builtin .append, args := #[s, x], argTypes := #[38, 38] }) (base : Nat) (v : Value) (n : Nat) (xs : List Value) (hs : a.eval s = v) (hown : w.ownsRow base 3 1 v n xs)
    (sa : Option Addr) (m c : Nat) (hx : a.eval x = .slice sa m c) (news : List Value) (hl : news.length = m) (hnews : ∃ b, ∀ j, (h : j < news.length) → sa = some ⟨b, 0, none⟩ ∧ w.cell? ⟨b, j, none⟩ = some news[j]) (h1 : ∀ u ∈ news, u.oneCell' = true)
    (hb : n + m ≤ 1048576) (hbase : base ≤ w.heap.size)
    (h : ∀ ta tc w', w'.ownsRow base 3 1 (.slice ta (n + m) tc) (n + m) (xs ++ news) → w.grownBy w' v.ownBlock → wpList Yba.prog ops Q rest (a.put o.dst (.slice ta (n + m) tc)) w') : wpList Yba.prog ops Q (o :: rest) a w := by
  refine wpList_plain hgd fun K' hK' => ?_
  obtain ⟨ta, tc, w', hr, h2, h3⟩ := run_append_seg w o.type base v n xs hown sa m c news hl hnews h1 hb hbase
  unfold Oper.wp execOp
  simp only [ho, resolve, invoke, builtin, Sem.run_bind, Sem.run_pure, Result.andThen_ok, List.map_toArray, List.map_cons, List.map_nil, hs, hx, hr]
  exact hK' _ _ (h ta tc w' h2 h3)

theorem ownsRow_shorter {w : World} {base : Nat} {e : TypeId} {gb n cap : Nat} {xs : List Value} (h : w.ownsRow base e 1 (.slice (some ⟨gb, 0, none⟩) n cap) n xs) {k : Nat} (hk : k ≤ n) :
    w.ownsRow base e 1 (.slice (some ⟨gb, 0, none⟩) k cap) k (xs.take k) := by
  refine ⟨by rw [List.length_take, h.1]; omega, Or.inr ?_⟩
  rcases h.2 with ⟨h1, _⟩ | ⟨g', cap', cur, h1, h2, h3, h4, h5, h6, h7⟩
  · cases h1
  · simp only [Value.slice.injEq, Option.some.injEq, Addr.mk.injEq, and_true, true_and] at h1
    obtain ⟨rfl, rfl⟩ := h1
    refine ⟨gb, cap, cur, rfl, h2, h3, by omega, h5, h6, ?_⟩
    rw [← h7, List.take_take]
    congr 1
    omega

end Go.Proofs.Ybulkcnke
