/-
  Rows of edges: cloned, sorted.
-/
import Derived.Test.YbulkcnjcCNod
namespace Go.Proofs.Ybulkcnjc
open Go.RowKit Go.Deep
set_option linter.unusedVariables false
attribute [local go_sem ↓] Go.wp_at_zero Go.wp_at_succ

def dOf (D : Nat → Int × Int) (n : Nat) : Array (Int × Int) := ((List.range n).map D).toArray
theorem dOf_size (D : Nat → Int × Int) (n : Nat) : (dOf D n).size = n := by simp [dOf]
theorem dOf_at (D : Nat → Int × Int) (n i : Nat) (h : i < n) : (dOf D n)[i]! = D i := by
  rw [getElem!_pos _ i (by rw [dOf_size]; exact h)]
  simp [dOf]

theorem holdsE {g n : Nat} {D : Nat → Int × Int} {w : World} (h : ERow g n D w) : Sort.HoldsK encE 2 w g 0 (dOf D n) := by
  intro t ht
  rw [Sort.size_flatK, dOf_size] at ht
  obtain ⟨c1, c2, f1, f2⟩ := h (t / 2) (by omega)
  rw [Nat.zero_add, Sort.get_flatK _ _ _ _ (by rw [dOf_size]; exact ht), dOf_at D n _ (by omega)]
  rcases (by omega : t % 2 = 0 ∨ t % 2 = 1) with e | e
  · have et : t / 2 * 2 = t := by omega
    rw [et] at c1 f1
    rw [e]
    exact ⟨c1, f1⟩
  · have et : t / 2 * 2 + 1 = t := by omega
    rw [et] at c2 f2
    rw [e]
    exact ⟨c2, f2⟩
theorem erowOf {g : Nat} {d : Array (Int × Int)} {w : World} (h : Sort.HoldsK encE 2 w g 0 d) : ERow g d.size (fun i => d[i]!) w := fun i hi => by
  have h1 := Sort.HoldsK.cell h hi (show 0 < 2 by decide)
  have h2 := Sort.HoldsK.cell h hi (show 1 < 2 by decide)
  rw [Nat.zero_add, Nat.add_zero] at h1
  rw [Nat.zero_add] at h2
  exact ⟨h1.1, h2.1, h1.2, h2.2⟩

def SortRes (g n : Nat) (D0 : Nat → Int × Int) (w : World) (e : Ending) (w' : World) : Prop :=
  e = .returned (.tuple #[]) ∧ ∃ D1, CM g n D1 w w' ∧ (∀ i j, i < j → j < n → ¬ ltP (D1 j) (D1 i)) ∧ ∀ x, (∃ i, i < n ∧ D1 i = x) ↔ (∃ i, i < n ∧ D0 i = x)

theorem mem_arr {d : Array (Int × Int)} {x : Int × Int} : x ∈ d.toList ↔ ∃ i, i < d.size ∧ d[i]! = x := by
  rw [List.mem_iff_getElem]
  constructor
  · rintro ⟨i, hi, e⟩
    have hi' : i < d.size := by simpa using hi
    exact ⟨i, hi', by rw [getElem!_pos d i hi']; simpa using e⟩
  · rintro ⟨i, hi, e⟩
    exact ⟨i, by simpa using hi, by rw [getElem!_pos d i hi] at e; simpa using e⟩

theorem sortE_own (g cap n : Nat) (D0 : Nat → Int × Int) (w : World) (hr : ERow g n D0 w) (hg : g < w.heap.size) (hn : n ≤ 100000) :
    Calls Yba.prog 25 #[.slice (some ⟨g, 0, none⟩) n cap, .func (.func 26) #[] #[]] w fun e w' => SortRes g n D0 w e w' := by
  have hH := holdsE hr
  have h := sortE_any g 0 cap (dOf D0 n) w hH hg (by rw [dOf_size]; omega)
  rw [dOf_size] at h
  refine h.mono ?_
  rintro e w' ⟨rfl, d', q, os, hp, hs, rfl⟩
  have hsz : d'.size = n := by rw [hp.1, dOf_size]
  have hH2 := holdsK_sortWorldK_c encE 2 w g 0 (dOf D0 n) d' q os hH hg hp.1
  have hE := erowOf hH2
  rw [hsz] at hE
  refine ⟨rfl, fun i => d'[i]!, ⟨hE, ?_⟩, fun i j hij hj h => ?_, fun x => ?_⟩
  · unfold sortWorldK Sort.putRowK
    refine ⟨rfl, rfl, rfl, by simp, fun k hk hne => ?_⟩
    rw [Sort.heap_grow_old _ _ (by simpa using hk)]
    have : g ≠ k := fun e => hne (by rw [e])
    simp [Sort.putRow, Sort.mapBlock, Sort.ahead, Array.getElem?_modify, this]
  · have := hs i j (Nat.zero_le _) hij hj
    rw [ltE] at this
    simp only [decide_eq_false_iff_not] at this
    exact this h
  · have hperm := hp.2.2
    have e1 : (d'.extract 0 n).toList = d'.toList := by
      have : d'.extract 0 n = d' := by rw [← hsz]; simp
      rw [this]
    have e2 : ((dOf D0 n).extract 0 n).toList = (dOf D0 n).toList := by
      have : (dOf D0 n).extract 0 (dOf D0 n).size = dOf D0 n := by simp
      rw [dOf_size] at this
      rw [this]
    rw [e1, e2] at hperm
    have hm := hperm.mem_iff (a := x)
    rw [mem_arr, mem_arr, hsz, dOf_size] at hm
    rw [hm]
    constructor
    · rintro ⟨i, hi, e⟩
      exact ⟨i, hi, by rw [← dOf_at D0 n i hi]; exact e⟩
    · rintro ⟨i, hi, e⟩
      exact ⟨i, hi, by rw [dOf_at D0 n i hi]; exact e⟩

def rowE (D : Nat → Int × Int) (n : Nat) : List Value := (List.range n).flatMap fun i => encE (D i)
theorem rowE_succ (D : Nat → Int × Int) (n : Nat) : rowE D (n + 1) = rowE D n ++ encE (D n) := by simp [rowE, List.range_succ]
theorem rowE_length (D : Nat → Int × Int) : ∀ n, (rowE D n).length = n * 2
  | 0 => rfl
  | n + 1 => by rw [rowE_succ, List.length_append, rowE_length D n]; simp [encE]; omega
theorem rowE_at (D : Nat → Int × Int) : ∀ n i, i < n → (rowE D n)[i * 2]? = some (.int .i64 (D i).1) ∧ (rowE D n)[i * 2 + 1]? = some (.int .i64 (D i).2)
  | 0, i, h => by omega
  | n + 1, i, h => by
    rw [rowE_succ]
    have hl := rowE_length D n
    by_cases e : i = n
    · subst e
      rw [List.getElem?_append_right (by omega), List.getElem?_append_right (by omega), hl, Nat.sub_self, show i * 2 + 1 - i * 2 = 1 by omega]
      exact ⟨rfl, rfl⟩
    · rw [List.getElem?_append_left (by omega), List.getElem?_append_left (by omega)]
      exact rowE_at D n i (by omega)
theorem rowE_inv (D : Nat → Int × Int) (n j : Nat) (u : Value) (h : (rowE D n)[j]? = some u) : ∃ i, i < n ∧ ((j = i * 2 ∧ u = .int .i64 (D i).1) ∨ (j = i * 2 + 1 ∧ u = .int .i64 (D i).2)) := by
  have hj : j < n * 2 := by
    rcases Nat.lt_or_ge j (n * 2) with h' | h'
    · exact h'
    · rw [List.getElem?_eq_none (by rw [rowE_length]; exact h')] at h; cases h
  have h2 := rowE_at D n (j / 2) (by omega)
  refine ⟨j / 2, by omega, ?_⟩
  rcases (by omega : j % 2 = 0 ∨ j % 2 = 1) with e | e
  · left
    have ej : j / 2 * 2 = j := by omega
    rw [ej] at h2
    exact ⟨ej.symm, by rw [h2.1] at h; simpa using h.symm⟩
  · right
    have ej : j / 2 * 2 + 1 = j := by omega
    rw [ej] at h2
    exact ⟨ej.symm, by rw [h2.2] at h; simpa using h.symm⟩
theorem erow_owns {base g n cap : Nat} {D : Nat → Int × Int} {w : World} (h : w.ownsRow base 52 2 (.slice (some ⟨g, 0, none⟩) n cap) n (rowE D n)) : ERow g n D w := fun i hi => by
  obtain ⟨h1, h2⟩ := rowE_at D n i hi
  exact ⟨by rw [h.cellAt (i * 2) (by omega), h1], by rw [h.cellAt (i * 2 + 1) (by omega), h2], h.frozenAt _, h.frozenAt _⟩

def CloneRes (n : Nat) (D : Nat → Int × Int) (w : World) (e : Ending) (w' : World) : Prop :=
  ∃ g cap, e = .returned (.slice (some ⟨g, 0, none⟩) n cap) ∧ ERow g n D w' ∧ n ≤ cap ∧ w.heap.size ≤ g ∧ g < w'.heap.size ∧ Below w.heap.size w w'

theorem cloneE_own (b n c : Nat) (D : Nat → Int × Int) (w : World) (hn : n ≤ 100000) (hr : ERow b n D w) :
    Calls Yba.prog 24 #[.slice (some ⟨b, 0, none⟩) n c] w fun e w' => CloneRes n D w e w' := by
  refine (cloneE_any b 0 n c (rowE D n) w (rowE_length D n) hn (fun j u hj => ?_) (fun u hu => ?_)).mono ?_
  · obtain ⟨i, hi, h | h⟩ := rowE_inv D n j u hj
    · rw [Nat.zero_add, h.1, h.2]; exact (hr i hi).1
    · rw [Nat.zero_add, h.1, h.2]; exact (hr i hi).2.1
  · obtain ⟨j, hj, e⟩ := List.mem_iff_getElem.1 hu
    obtain ⟨i, hi, h | h⟩ := rowE_inv D n j u (by rw [List.getElem?_eq_getElem hj, e])
    · rw [h.2]; rfl
    · rw [h.2]; rfl
  · rintro e w' ⟨v', rfl, hown, hnil, hb⟩
    rcases hown.2 with ⟨rfl, _⟩ | ⟨g, cap, cur, rfl, h2, h3, h4, _⟩
    · exact absurd rfl hnil
    · exact ⟨g, cap, rfl, erow_owns hown, h4, h2, (Array.getElem?_eq_some_iff.1 h3).1, hb⟩

end Go.Proofs.Ybulkcnjc
