/-
  What 'fold' keeps while it goes round.
-/
import Derived.Test.YbulkcnkeBSkip
import Derived.Deep.OwnRows
namespace Go.Proofs.Ybulkcnke
open Go.RowKit Go.Maps
set_option linter.unusedVariables false

/-- one block, whole -/
def Blk (w : World) (b : Nat) (t : TypeId) (C : Array Value) : Prop := w.heap[b]? = some (.cells C t (0, 0))
theorem Blk.cell {w : World} {b : Nat} {t : TypeId} {C : Array Value} (h : Blk w b t C) (i : Nat) : w.cell? ⟨b, i, none⟩ = C[i]? := by
  unfold Blk at h
  simp [World.cell?, h]
theorem Blk.free {w : World} {b : Nat} {t : TypeId} {C : Array Value} (h : Blk w b t C) (i : Nat) : w.frozen? ⟨b, i, none⟩ = false := by
  unfold Blk at h
  simp [World.frozen?, h]
theorem Blk.lt {w : World} {b : Nat} {t : TypeId} {C : Array Value} (h : Blk w b t C) : b < w.heap.size := lt_of_block h
theorem Blk.one {w : World} {b : Nat} {t : TypeId} {v : Value} (h : Blk w b t #[v]) : w.cell? ⟨b, 0, none⟩ = some v := by rw [h.cell]; rfl
theorem Blk.set {w : World} {b : Nat} {t : TypeId} {C : Array Value} (h : Blk w b t C) (i : Nat) (v : Value) : Blk (w.setCell ⟨b, i, none⟩ v) b t (C.setIfInBounds i v) := by
  unfold Blk at h ⊢
  have hb := lt_of_block h
  rw [World.setCell]
  simp only [Array.getElem?_modify]
  simp [h]
theorem Blk.other {w : World} {b : Nat} {t : TypeId} {C : Array Value} (h : Blk w b t C) {a : Addr} (ha : b ≠ a.block) (v : Value) : Blk (w.setCell a v) b t C := by
  unfold Blk at h ⊢
  rw [Below.heap_setCell w a v b ha]
  exact h
theorem Blk.alloc {w : World} {b : Nat} {t : TypeId} {C : Array Value} (h : Blk w b t C) (o : Obj) : Blk (w.alloc o) b t C := by
  unfold Blk
  rw [Below.heap_alloc w o b h.lt]
  exact h
theorem Blk.below {w w' : World} {b : Nat} {t : TypeId} {C : Array Value} (h : Blk w b t C) {B : Nat} (hb : Below B w w') (hB : b < B) : Blk w' b t C := by
  unfold Blk
  rw [hb.block b hB]
  exact h
theorem Blk.grown {w w' : World} {b : Nat} {t : TypeId} {C : Array Value} (h : Blk w b t C) {row : Option Nat} (hg : w.grownBy w' row) (hne : some b ≠ row) : Blk w' b t C := by
  unfold Blk
  rw [hg.block b h.lt hne]
  exact h
theorem Blk.drew {w : World} {b : Nat} {t : TypeId} {C : Array Value} (h : Blk w b t C) : Blk w.drew b t C := h
theorem Blk.new (w : World) (C : Array Value) (t : TypeId) : Blk (w.alloc (.cells C t)) w.heap.size t C := heap_alloc_new w _

/-- a row of n values -/
def vals (n : Nat) (g : Nat → Value) : Array Value := ((List.range n).map g).toArray
theorem vals_at (n : Nat) (g : Nat → Value) (i : Nat) (h : i < n) : (vals n g)[i]? = some (g i) := by simp [vals, h]
theorem vals_size (n : Nat) (g : Nat → Value) : (vals n g).size = n := by simp [vals]
theorem vals_congr {n : Nat} {g g' : Nat → Value} (h : ∀ i, i < n → g i = g' i) : vals n g = vals n g' := by
  unfold vals
  congr 1
  exact List.map_congr_left (fun i hi => h i (List.mem_range.1 hi))
theorem vals_set (n : Nat) (g : Nat → Value) (i : Nat) (x : Value) : (vals n g).setIfInBounds i x = vals n (fun j => if j = i then x else g j) := by
  apply Array.ext
  · simp [vals]
  · intro j h1 h2
    have hj : j < n := by simpa [vals] using h2
    rw [Array.getElem_setIfInBounds (by simpa [vals] using hj)]
    by_cases e : i = j
    · subst e
      simp [vals]
    · have : j ≠ i := fun h => e h.symm
      simp [vals, e, this]
theorem made_vals (z : Value) (n : Nat) : madeCells #[z] n = vals n (fun _ => z) := by
  apply Array.ext
  · simp [madeCells, vals]
  · intro i h1 h2
    simp [madeCells, vals, Nat.mod_one]

theorem grown_drew (w : World) (row : Option Nat) : w.grownBy w.drew row := ⟨rfl, rfl, rfl, Nat.le_refl _, fun _ _ _ => rfl⟩
theorem grown_refl (w : World) (row : Option Nat) : w.grownBy w row := ⟨rfl, rfl, rfl, Nat.le_refl _, fun _ _ _ => rfl⟩
theorem grown_set (w : World) (a : Addr) (v : Value) : w.grownBy (w.setCell a v) (some a.block) :=
  have h := (Below.refl a.block w).setCell (p := a) (Nat.le_refl _) v
  ⟨h.os, h.tape, h.output, h.size, fun k hk hne => Below.heap_setCell w a v k (fun e => hne (by rw [e]))⟩
theorem grown_below {w w' : World} {B : Nat} (h : Below B w w') (hB : w.heap.size ≤ B) (row : Option Nat) : w.grownBy w' row := ⟨h.os, h.tape, h.output, h.size, fun k hk _ => h.block k (Nat.lt_of_lt_of_le hk hB)⟩

/-- the blocks of one 'fold' -/
structure Fk where
  bM : Nat
  bV : Nat
  bP : Nat
  bF : Nat
  mM : Nat
  lo : Nat
  fn : Nat
  fv : Value

structure Fk.Ok (p : Pr) (k : Fk) : Prop where
  base : p.base ≤ k.mM
  hM : k.bM ≠ k.mM
  hV : k.bV ≠ k.mM
  hP : k.bP ≠ k.mM
  hF : k.bF ≠ k.mM
  lM : k.bM < k.lo
  lV : k.bV < k.lo
  lP : k.bP < k.lo
  lF : k.bF < k.lo
  lm : k.mM < k.lo

/-- the visitor's arguments -/
def visArgs (p : Pr) (k : Fk) (i : Nat) : Array Value := #[.pointer (some ⟨p.pS, i * 12, none⟩), .pointer (some ⟨k.bM, 0, none⟩), .pointer (some ⟨k.bV, 0, none⟩), .pointer (some ⟨k.bP, 0, none⟩), .pointer (some ⟨k.bF, 0, none⟩)]

structure FI (p : Pr) (k : Fk) (V : Nat → Value → World → Prop) (X : World → Prop) (w : World) (f : Nat → Option Value) : Prop where
  pat : PAt p w
  cM : w.cell? ⟨k.bM, 0, none⟩ = some (.map (some k.mM))
  cV : w.cell? ⟨k.bV, 0, none⟩ = some (.func (.func k.fn) #[] #[.pointer (some ⟨k.bM, 0, none⟩), .pointer (some ⟨k.bV, 0, none⟩), .pointer (some ⟨k.bP, 0, none⟩), .pointer (some ⟨k.bF, 0, none⟩)])
  cP : w.cell? ⟨k.bP, 0, none⟩ = some (.pointer (some ⟨p.pP, 0, none⟩))
  cF : w.cell? ⟨k.bF, 0, none⟩ = some k.fv
  map : MapIs w k.mM f
  val : ∀ j v, f j = some v → j < p.n ∧ V j v w
  ex : X w
  lo : k.lo ≤ w.heap.size

/-- V and X stand while nothing but the block m is written -/
structure Stay (V : Nat → Value → World → Prop) (X : World → Prop) (m lo : Nat) : Prop where
  v : ∀ j v w w', V j v w → w.grownBy w' (some m) → V j v w'
  x : ∀ w w', X w → w.grownBy w' (some m) → X w'
  vs : ∀ j v w c t C i u, V j v w → Blk w c t C → V j v (w.setCell ⟨c, i, none⟩ u)
  xs : ∀ w c i u, X w → lo ≤ c → X (w.setCell ⟨c, i, none⟩ u)

section
variable {p : Pr} {k : Fk} {V : Nat → Value → World → Prop} {X : World → Prop} {w w' : World} {f : Nat → Option Value}

theorem FI.grown (h : FI p k V X w f) (ok : p.Ok) (kok : k.Ok p) (st : Stay V X k.mM k.lo) (hg : w.grownBy w' (some k.mM)) {f' : Nat → Option Value} (hm : MapIs w' k.mM f') (hv : ∀ j v, f' j = some v → j < p.n ∧ V j v w') : FI p k V X w' f' := by
  have c : ∀ b i v, b ≠ k.mM → w.cell? ⟨b, i, none⟩ = some v → w'.cell? ⟨b, i, none⟩ = some v := fun b i v hne hc => hg.cell hc (by simpa using hne)
  refine ⟨h.pat.below ok ((Below.refl p.base w).grown hg h.pat.sz (fun x hx => ?_)) (Nat.le_refl _), c _ _ _ kok.hM h.cM, c _ _ _ kok.hV h.cV, c _ _ _ kok.hP h.cP, c _ _ _ kok.hF h.cF, hm, hv, st.x _ _ h.ex hg, Nat.le_trans h.lo hg.size⟩
  cases hx
  exact kok.base

theorem FI.same (h : FI p k V X w f) (ok : p.Ok) (kok : k.Ok p) (st : Stay V X k.mM k.lo) (hg : w.grownBy w' none) : FI p k V X w' f :=
  h.grown ok kok st (hg.but _) (h.map.grown hg (by simp)) (fun j v hj => let ⟨h1, h2⟩ := h.val j v hj; ⟨h1, st.v _ _ _ _ h2 (hg.but _)⟩)

theorem FI.set (h : FI p k V X w f) (ok : p.Ok) (kok : k.Ok p) (st : Stay V X k.mM k.lo) {c : Nat} {t : TypeId} {C : Array Value} (hc : Blk w c t C) (hlo : k.lo ≤ c) (i : Nat) (u : Value) : FI p k V X (w.setCell ⟨c, i, none⟩ u) f := by
  have h1 := kok.lm
  have h2 := kok.base
  have cc : ∀ b i' v, b < k.lo → w.cell? ⟨b, i', none⟩ = some v → (w.setCell ⟨c, i, none⟩ u).cell? ⟨b, i', none⟩ = some v := fun b i' v hne hcell => (grown_set w ⟨c, i, none⟩ u).cell hcell (by simp; omega)
  refine ⟨h.pat.below ok ((Below.refl p.base w).setCell (p := ⟨c, i, none⟩) (by show p.base ≤ c; omega) u) (Nat.le_refl _), cc _ _ _ kok.lM h.cM, cc _ _ _ kok.lV h.cV, cc _ _ _ kok.lP h.cP, cc _ _ _ kok.lF h.cF, h.map.other (by show k.mM ≠ c; omega) u, fun j v hj => let ⟨a, b⟩ := h.val j v hj; ⟨a, st.vs _ _ _ _ _ _ _ _ b hc⟩, st.xs _ _ _ _ h.ex hlo, by simpa using h.lo⟩

end

/-- what a visit leaves -/
def VRes (p : Pr) (k : Fk) (V : Nat → Value → World → Prop) (X : World → Prop) (f : Nat → Option Value) (i : Nat) (w : World) (e : Ending) (w' : World) : Prop :=
  ∃ v f', e = .returned v ∧ FI p k V X w' f' ∧ f' i = some v ∧ (∀ j, (f j).isSome = true → (f' j).isSome = true) ∧ w.grownBy w' (some k.mM)

end Go.Proofs.Ybulkcnke
