/-
  zzs4463bbuild: what lies in memory.
-/
import Derived.Test.YbulkcnkeBFold
import Derived.Laws.EntriesVeiled
namespace Go.Proofs.Ybulkcnke
open Go.RowKit Go.Maps
set_option linter.unusedVariables false

/-- the plain data -/
def aftOf (I : In) (i : Nat) : List Nat := if i = 0 then [] else (List.range (I.la i)).map (fun j => I.xa i j % i)
def thnOf (I : In) (n i : Nat) : List Nat := (List.range (I.lt i)).map (fun j => I.xt i j % n)
def jnOf (I : In) (aj : Bool) (i : Nat) : Nat := if aj then 0 else I.jo i % 3

def numL (l : List Nat) : List Value := l.map (fun a : Nat => Value.int .i64 (a : Int))
theorem numL_length (l : List Nat) : (numL l).length = l.length := by simp [numL]

/-- v is a slice whose elements are l, in blocks from lo on -/
def SlR (lo : Nat) (v : Value) (l : List Value) (w : World) : Prop :=
  ∃ a cap b, v = .slice a l.length cap ∧ ∀ j, (h : j < l.length) → a = some ⟨b, 0, none⟩ ∧ lo ≤ b ∧ w.cell? ⟨b, j, none⟩ = some l[j]

/-- the blocks from lo on stay as they are -/
def Hi (lo : Nat) (w w' : World) : Prop := ∀ b, lo ≤ b → b < w.heap.size → w'.heap[b]? = w.heap[b]?

theorem SlR.hi {lo : Nat} {v : Value} {l : List Value} {w w' : World} (h : SlR lo v l w) (hh : Hi lo w w') : SlR lo v l w' := by
  obtain ⟨a, cap, b, rfl, h⟩ := h
  refine ⟨a, cap, b, rfl, fun j hj => ?_⟩
  obtain ⟨h1, h2, h3⟩ := h j hj
  exact ⟨h1, h2, (World.cell?_of_block (a := ⟨b, j, none⟩) (hh b h2 (World.block_lt_of_cell? w ⟨b, j, none⟩ h3))).trans h3⟩
theorem SlR.lower {lo lo' : Nat} {v : Value} {l : List Value} {w : World} (h : SlR lo v l w) (hl : lo' ≤ lo) : SlR lo' v l w := by
  obtain ⟨a, cap, b, rfl, h⟩ := h
  exact ⟨a, cap, b, rfl, fun j hj => let ⟨h1, h2, h3⟩ := h j hj; ⟨h1, Nat.le_trans hl h2, h3⟩⟩
theorem SlR.nil (lo : Nat) (w : World) : SlR lo (.slice none 0 0) [] w := ⟨none, 0, 0, rfl, fun j hj => absurd hj (Nat.not_lt_zero _)⟩
theorem SlR.sl {lo : Nat} {v : Value} {l : List Value} {w : World} (h : SlR lo v l w) : Sl w.heap.size v l w := by
  obtain ⟨a, cap, b, rfl, h⟩ := h
  exact ⟨a, cap, b, rfl, fun j hj => let ⟨h1, h2, h3⟩ := h j hj; ⟨h1, World.block_lt_of_cell? w ⟨b, j, none⟩ h3, h3⟩⟩

theorem SlR.ofOwn {w : World} {base : Nat} {e : TypeId} {v : Value} {k : Nat} {l : List Value} (h : w.ownsRow base e 1 v k l) (hk : l.length = k) : SlR base v l w := by
  subst hk
  by_cases hm : 0 < l.length
  · obtain ⟨fb, fc, rfl, hb, hlt⟩ := h.form hm
    have hc := h.cells (g := fb) rfl
    have add : ∀ j, (⟨fb, 0, none⟩ : Addr).add j = ⟨fb, j, none⟩ := by intro j; unfold Addr.add; split <;> simp_all
    refine ⟨_, fc, fb, rfl, fun j hj => ⟨rfl, hb, ?_⟩⟩
    have e := hc j _ (List.getElem?_eq_getElem hj)
    rw [add] at e
    exact e
  · have h0 : l = [] := by cases l; rfl; simp at hm
    subst h0
    rcases h.2 with ⟨h1, _⟩ | ⟨g', cap', cur, h1, _⟩
    · exact ⟨none, 0, 0, h1, fun i hi => absurd hi (Nat.not_lt_zero _)⟩
    · exact ⟨_, cap', 0, h1, fun i hi => absurd hi (Nat.not_lt_zero _)⟩

/-- the cell 'Choose' -/
def ChR (lo : Nat) (thn : List Nat) (v : Value) (w : World) : Prop :=
  (thn = [] ∧ v = .slice none 0 0) ∨ (thn ≠ [] ∧ ∃ cb tv, v = .slice (some ⟨cb, 0, none⟩) 1 1 ∧ lo ≤ cb ∧ w.cell? ⟨cb, 0, none⟩ = some (.slice none 0 0) ∧ w.cell? ⟨cb, 1, none⟩ = some tv ∧ SlR lo tv (ids thn) w)
theorem ChR.hi {lo : Nat} {thn : List Nat} {v : Value} {w w' : World} (h : ChR lo thn v w) (hh : Hi lo w w') : ChR lo thn v w' := by
  rcases h with h | ⟨h0, cb, tv, h1, h2, h3, h4, h5⟩
  · exact Or.inl h
  · have hc : ∀ j v, w.cell? ⟨cb, j, none⟩ = some v → w'.cell? ⟨cb, j, none⟩ = some v := fun j v hj => (World.cell?_of_block (a := ⟨cb, j, none⟩) (hh cb h2 (World.block_lt_of_cell? w ⟨cb, j, none⟩ hj))).trans hj
    exact Or.inr ⟨h0, cb, tv, h1, h2, hc _ _ h3, hc _ _ h4, h5.hi hh⟩
theorem ChR.lower {lo lo' : Nat} {thn : List Nat} {v : Value} {w : World} (h : ChR lo thn v w) (hl : lo' ≤ lo) : ChR lo' thn v w := by
  rcases h with h | ⟨h0, cb, tv, h1, h2, h3, h4, h5⟩
  · exact Or.inl h
  · exact Or.inr ⟨h0, cb, tv, h1, Nat.le_trans hl h2, h3, h4, h5.lower hl⟩
theorem ChR.ch {lo : Nat} {thn : List Nat} {v : Value} {w : World} (h : ChR lo thn v w) : Ch w.heap.size thn v w := by
  rcases h with h | ⟨h0, cb, tv, h1, h2, h3, h4, h5⟩
  · exact Or.inl h
  · exact Or.inr ⟨h0, cb, tv, h1, World.block_lt_of_cell? w ⟨cb, 0, none⟩ h3, h3, h4, h5.sl⟩

/-- one step's cells, whole -/
def sA (i : Nat) (av : Value) (jb : ByteArray) (cv : Value) : Array Value :=
  #[.string (idB i), av, .string jb, .pointer none, .pointer none, .bool false, .string compB, .slice none 0 0, cv, .slice none 0 0, .pointer none, .slice none 0 0]

/-- in the row of steps, at j -/
structure SCells (I : In) (n : Nat) (aj : Bool) (lo j : Nat) (C : Array Value) (w : World) : Prop where
  id : C[j * 12]? = some (.string (idB j))
  aft : ∃ v, C[j * 12 + 1]? = some v ∧ SlR lo v (ids (aftOf I j)) w
  join : C[j * 12 + 2]? = some (.string (jnB (jnOf I aj j)))
  kind : C[j * 12 + 6]? = some (.string compB)
  ch : ∃ v, C[j * 12 + 8]? = some v ∧ ChR lo (thnOf I n j) v w
  al : C[j * 12 + 11]? = some (.slice none 0 0)

/-- the state ahead of step i -/
structure BI (I : In) (n : Nat) (aj : Bool) (H pP pS aA aT rB : Nat) (w0 : World) (i : Nat) (w : World) : Prop where
  bl : Below H w0 w
  sz : rB + n ≤ w.heap.size
  p : ∃ C, Blk w pP 36 C ∧ C[1]? = some (.slice (some ⟨pS, 0, none⟩) n n) ∧ C[6]? = some (.map (some H))
  s : ∃ C, Blk w pS 50 C ∧ C.size = n * 12 ∧ ∀ j, j < i → SCells I n aj (rB + n) j C w
  a : ∃ C, Blk w aA 38 C ∧ C.size = n ∧ (∀ j, i ≤ j → j < n → C[j]? = some (.slice none 0 0)) ∧ ∀ j, j < i → ∃ v, C[j]? = some v ∧ SlR (rB + n) v (numL (aftOf I j)) w
  t : Blk w aT 37 (vals n (fun j => .slice (some ⟨rB + j, 0, none⟩) n n))
  r : ∀ j, j < n → Blk w (rB + j) 4 (vals n (fun k => .bool (decide (j < i) && decide (k ∈ thnOf I n j))))
  m : MapIs w H (fun k => if k < i then some (.int .i64 (k : Int)) else none)

/-- they lie one behind the other -/
structure BOk (H pP pS aA aT rB : Nat) : Prop where
  h1 : pP = H + 1
  h2 : pS = H + 2
  h3 : aA = H + 3
  h4 : aT = H + 4
  h5 : rB = H + 5

/-- ahead of the first loop: j rows of 'then' are laid -/
structure BJ (n : Nat) (H pP pS aA aT rB : Nat) (w0 : World) (j : Nat) (w : World) : Prop where
  bl : Below H w0 w
  sz : w.heap.size = rB + j
  p : ∃ C, Blk w pP 36 C ∧ C[1]? = some (.slice (some ⟨pS, 0, none⟩) n n) ∧ C[6]? = some (.map (some H))
  s : ∃ C, Blk w pS 50 C ∧ C.size = n * 12
  a : Blk w aA 38 (vals n (fun _ => .slice none 0 0))
  t : Blk w aT 37 (vals n (fun k => if k < j then .slice (some ⟨rB + k, 0, none⟩) n n else .slice none 0 0))
  r : ∀ k, k < j → Blk w (rB + k) 4 (vals n (fun _ => .bool false))
  m : MapIs w H (fun _ => none)

theorem BJ.start (w : World) (n : Nat) (z50 : Array Value) (x0 x2 x3 x4 x5 x7 : Value) : BJ n w.heap.size (w.heap.size + 1) (w.heap.size + 1 + 1) (w.heap.size + 1 + 1 + 1) (w.heap.size + 1 + 1 + 1 + 1) (w.heap.size + 5) w 0
    (((((w.alloc (.map #[] 0)).alloc (.cells #[x0, .slice (some ⟨w.heap.size + 1 + 1, 0, none⟩) n n, x2, x3, x4, x5, .map (some w.heap.size), x7] 36)).alloc (.cells (madeCells z50 (n * 12)) 50)).alloc (.cells (madeCells #[.slice none 0 0] n) 38)).alloc (.cells (madeCells #[.slice none 0 0] n) 37)) := by
  refine ⟨?_, by simp, ?_, ?_, ?_, ?_, fun k hk => absurd hk (Nat.not_lt_zero _), ?_⟩
  · exact (((((Below.refl _ _).alloc (Nat.le_refl _) _).alloc (by simp) _).alloc (by simp; omega) _).alloc (by simp; omega) _).alloc (by simp; omega) _
  · have h := Blk.new (w.alloc (.map #[] 0)) #[x0, .slice (some ⟨w.heap.size + 1 + 1, 0, none⟩) n n, x2, x3, x4, x5, .map (some w.heap.size), x7] 36
    rw [World.size_alloc] at h
    exact ⟨_, ((h.alloc _).alloc _).alloc _, rfl, rfl⟩
  · have h := Blk.new ((w.alloc (.map #[] 0)).alloc (.cells #[x0, .slice (some ⟨w.heap.size + 1 + 1, 0, none⟩) n n, x2, x3, x4, x5, .map (some w.heap.size), x7] 36)) (madeCells z50 (n * 12)) 50
    rw [World.size_alloc, World.size_alloc] at h
    exact ⟨_, (h.alloc _).alloc _, size_madeCells _ _⟩
  · have h := Blk.new (((w.alloc (.map #[] 0)).alloc (.cells #[x0, .slice (some ⟨w.heap.size + 1 + 1, 0, none⟩) n n, x2, x3, x4, x5, .map (some w.heap.size), x7] 36)).alloc (.cells (madeCells z50 (n * 12)) 50)) (madeCells #[.slice none 0 0] n) 38
    rw [World.size_alloc, World.size_alloc, World.size_alloc] at h
    rw [← made_vals]
    exact h.alloc _
  · have h := Blk.new ((((w.alloc (.map #[] 0)).alloc (.cells #[x0, .slice (some ⟨w.heap.size + 1 + 1, 0, none⟩) n n, x2, x3, x4, x5, .map (some w.heap.size), x7] 36)).alloc (.cells (madeCells z50 (n * 12)) 50)).alloc (.cells (madeCells #[.slice none 0 0] n) 38)) (madeCells #[.slice none 0 0] n) 37
    rw [World.size_alloc, World.size_alloc, World.size_alloc, World.size_alloc] at h
    simp only [Nat.not_lt_zero, if_false]
    rw [← made_vals]
    exact h
  · exact ((((MapIs.made w).alloc _).alloc _).alloc _).alloc _

theorem BJ.step {n H pP pS aA aT rB : Nat} {w0 w : World} {j : Nat} (h : BJ n H pP pS aA aT rB w0 j w) (ok : BOk H pP pS aA aT rB) (hj : j < n) :
    BJ n H pP pS aA aT rB w0 (j + 1) ((w.setCell ⟨aT, j, none⟩ (.slice (some ⟨w.heap.size, 0, none⟩) n n)).alloc (.cells (madeCells #[.bool false] n) 4)) := by
  obtain ⟨h1, h2, h3, h4, h5⟩ := ok
  have hsz := h.sz
  refine ⟨(h.bl.setCell (by show H ≤ aT; omega) _).alloc (by simp; omega) _, by simp; omega, ?_, ?_, ?_, ?_, fun k hk => ?_, ?_⟩
  · obtain ⟨C, hC, a, b⟩ := h.p
    exact ⟨C, (hC.other (by show pP ≠ aT; omega) _).alloc _, a, b⟩
  · obtain ⟨C, hC, a⟩ := h.s
    exact ⟨C, (hC.other (by show pS ≠ aT; omega) _).alloc _, a⟩
  · exact (h.a.other (by show aA ≠ aT; omega) _).alloc _
  · have := (h.t.set j (.slice (some ⟨w.heap.size, 0, none⟩) n n)).alloc (.cells (madeCells #[.bool false] n) 4)
    rw [vals_set] at this
    rw [vals_congr (g' := fun k => if k = j then .slice (some ⟨w.heap.size, 0, none⟩) n n else if k < j then .slice (some ⟨rB + k, 0, none⟩) n n else .slice none 0 0)]
    · exact this
    · intro k hk
      have e3 : (k < j + 1) = (k = j ∨ k < j) := propext (by omega)
      by_cases e : k = j
      · subst e; simp [hsz]
      · by_cases e2 : k < j
        · simp [e, e2, e3]
        · simp [e, e2, e3]
  · by_cases e : k = j
    · subst e
      have := Blk.new (w.setCell ⟨aT, k, none⟩ (.slice (some ⟨w.heap.size, 0, none⟩) n n)) (madeCells #[.bool false] n) 4
      rw [World.size_setCell, hsz, made_vals] at this
      rw [made_vals, hsz]
      exact this
    · exact ((h.r k (by omega)).other (by show rB + k ≠ aT; omega) _).alloc _
  · exact (h.m.other (by show H ≠ aT; omega) _).alloc _

theorem BJ.done {I : In} {n : Nat} {aj : Bool} {H pP pS aA aT rB : Nat} {w0 w : World} (h : BJ n H pP pS aA aT rB w0 n w) : BI I n aj H pP pS aA aT rB w0 0 w := by
  refine ⟨h.bl, Nat.le_of_eq h.sz.symm, h.p, ?_, ⟨_, h.a, vals_size _ _, fun j _ hj => vals_at _ _ _ hj, fun j hj => absurd hj (Nat.not_lt_zero _)⟩, ?_, fun j hj => ?_, ?_⟩
  · obtain ⟨C, hC, a⟩ := h.s
    exact ⟨C, hC, a, fun j hj => absurd hj (Nat.not_lt_zero _)⟩
  · rw [vals_congr (g' := fun k => if k < n then .slice (some ⟨rB + k, 0, none⟩) n n else .slice none 0 0) (fun k hk => by rw [if_pos hk])]
    exact h.t
  · simpa using h.r j hj
  · simpa using h.m

/-- two blocks and the new ones may have turned -/
structure Fr (x y : Nat) (w w' : World) : Prop where
  os : w'.os = w.os
  tape : w'.tape = w.tape
  output : w'.output = w.output
  size : w.heap.size ≤ w'.heap.size
  block : ∀ b, b < w.heap.size → b ≠ x → b ≠ y → w'.heap[b]? = w.heap[b]?

theorem Fr.refl (x y : Nat) (w : World) : Fr x y w w := ⟨rfl, rfl, rfl, Nat.le_refl _, fun _ _ _ _ => rfl⟩
theorem Fr.grown {x y : Nat} {w w' w'' : World} {row : Option Nat} (h : Fr x y w w') (hg : w'.grownBy w'' row) (hr : ∀ r, row = some r → r = x ∨ r = y ∨ w.heap.size ≤ r) : Fr x y w w'' :=
  ⟨hg.os.trans h.os, hg.tape.trans h.tape, hg.output.trans h.output, Nat.le_trans h.size hg.size, fun b hb hx hy => (hg.block b (Nat.lt_of_lt_of_le hb h.size) (fun e => by
    rcases hr b e.symm with h1 | h1 | h1
    · exact hx h1
    · exact hy h1
    · omega)).trans (h.block b hb hx hy)⟩
theorem Fr.alloc {x y : Nat} {w w' : World} (h : Fr x y w w') (o : Obj) : Fr x y w (w'.alloc o) := h.grown (World.grownBy_alloc w' o none) (fun r hr => by cases hr)
theorem Fr.drew {x y : Nat} {w w' : World} (h : Fr x y w w') : Fr x y w w'.drew := h.grown (grown_drew w' none) (fun r hr => by cases hr)
theorem Fr.set {x y : Nat} {w w' : World} (h : Fr x y w w') (a : Addr) (v : Value) (ha : a.block = x ∨ a.block = y ∨ w.heap.size ≤ a.block) : Fr x y w (w'.setCell a v) := h.grown (grown_set w' a v) (fun r hr => by cases hr; exact ha)
theorem Fr.below {x y : Nat} {w w' w'' : World} (h : Fr x y w w') (hb : Below w'.heap.size w' w'') : Fr x y w w'' := h.grown (grown_below hb (Nat.le_refl _) none) (fun r hr => by cases hr)
theorem Fr.blk {x y : Nat} {w w' : World} {b : Nat} {t : TypeId} {C : Array Value} (h : Fr x y w w') (hb : Blk w b t C) (hx : b ≠ x) (hy : b ≠ y) : Blk w' b t C := by
  unfold Blk
  rw [h.block b hb.lt hx hy]
  exact hb

/-- 'steps[i]', laid anew -/
def stA (I : In) (i : Nat) : Array Value := #[.slice (I.ra i) (I.la i) (I.ca i), .int .u8 (I.jo i : Int), .slice (I.rt i) (I.lt i) (I.ct i)]
/-- the first k of what step i comes after -/
def aftTo (I : In) (i k : Nat) : List Nat := (List.range k).map (fun j => I.xa i j % i)
theorem aftTo_succ (I : In) (i k : Nat) : aftTo I i (k + 1) = aftTo I i k ++ [I.xa i k % i] := by unfold aftTo; rw [List.range_succ, List.map_append]; rfl
theorem aftTo_length (I : In) (i k : Nat) : (aftTo I i k).length = k := by simp [aftTo]
theorem ids_snoc (l : List Nat) (a : Nat) : ids l ++ [.string (idB a)] = ids (l ++ [a]) := by simp [ids]
theorem numL_snoc (l : List Nat) (a : Nat) : numL l ++ [.int .i64 (a : Int)] = numL (l ++ [a]) := by simp [numL]

/-- the third loop -/
structure L3 (I : In) (i ka kq : Nat) (w1 : World) (aA bs : Nat) (CA : Array Value) (av qv : Value) (w : World) : Prop where
  fr : Fr aA aA w1 w
  st : Blk w w1.heap.size 57 (stA I i)
  sb : Blk w bs 50 (sA i av ⟨#[]⟩ (.slice none 0 0))
  a : Blk w aA 38 (CA.setIfInBounds i qv)
  ra : w.ownsRow (bs + 1) 9 1 av ka (ids (aftTo I i ka))
  rq : w.ownsRow (bs + 1) 3 1 qv kq (numL (aftTo I i kq))
  lt : w1.heap.size < bs
  lA : aA < w1.heap.size
  sz : bs + 1 ≤ w.heap.size

/-- two rows of two types are two rows -/
theorem rows_apart {w w' : World} {base : Nat} {e e' : TypeId} {v u : Value} {n n' : Nat} {xs xs' : List Value} (h : w.ownsRow base e 1 v n xs) (h' : w.ownsRow base e' 1 u n' xs') (hne : e ≠ e') (hg : w.grownBy w' u.ownBlock) : w'.ownsRow base e 1 v n xs := by
  refine h.kept hg ?_
  cases hv : v.ownBlock with
  | none => exact Or.inl rfl
  | some b =>
    right
    intro he
    obtain ⟨_, h2⟩ := h
    obtain ⟨_, h2'⟩ := h'
    rcases h2 with ⟨rfl, _⟩ | ⟨g, _, _, rfl, _, h3, _⟩
    · simp [Value.ownBlock] at hv
    · rcases h2' with ⟨rfl, _⟩ | ⟨g', _, _, rfl, _, h3', _⟩
      · simp [Value.ownBlock] at he
      · simp only [Value.ownBlock, Option.some.injEq] at hv he
        subst hv
        subst he
        rw [h3] at h3'
        simp at h3'
        exact hne h3'.2

section
variable {I : In} {i ka kq : Nat} {w1 : World} {aA bs : Nat} {CA : Array Value} {av qv : Value} {w w2 : World} {g cap : Nat} {o : Obj}

theorem L3.pushQ (h : L3 I i ka kq w1 aA bs CA av qv w) (hg : (w.alloc o).grownBy w2 qv.ownBlock)
    (hown : w2.ownsRow (bs + 1) 3 1 (.slice (some ⟨g, 0, none⟩) (kq + 1) cap) (kq + 1) (numL (aftTo I i kq) ++ [.int .i64 ((I.xa i kq % i : Nat) : Int)])) :
    L3 I i ka (kq + 1) w1 aA bs CA av (.slice (some ⟨g, 0, none⟩) (kq + 1) cap) (w2.setCell ⟨aA, i, none⟩ (.slice (some ⟨g, 0, none⟩) (kq + 1) cap)) := by
  rw [numL_snoc, ← aftTo_succ] at hown
  have h1 := h.lt
  have h2 := h.lA
  have hrow : ∀ r, qv.ownBlock = some r → bs + 1 ≤ r := fun r hr => (h.rq.lt r hr).1
  have hne : ∀ b, b ≤ bs → some b ≠ qv.ownBlock := fun b hb e => by have := hrow b e.symm; omega
  refine ⟨((h.fr.alloc o).grown hg (fun r hr => Or.inr (Or.inr (by have := hrow r hr; omega)))).set _ _ (Or.inl rfl), ((h.st.alloc o).grown hg (hne _ (by omega))).other (by show w1.heap.size ≠ aA; omega) _, ((h.sb.alloc o).grown hg (hne _ (Nat.le_refl _))).other (by show bs ≠ aA; omega) _, ?_, ?_, ?_, h1, h2, ?_⟩
  · have := ((h.a.alloc o).grown hg (hne _ (by omega))).set i (.slice (some ⟨g, 0, none⟩) (kq + 1) cap)
    rwa [Array.setIfInBounds_setIfInBounds] at this
  · exact ownsRow_setCell_below (rows_apart (h.ra.alloc o) (h.rq.alloc o) (by decide) hg) (by show aA < bs + 1; omega) _
  · exact ownsRow_setCell_below hown (by show aA < bs + 1; omega) _
  · have q1 := hg.size
    have q2 := h.sz
    rw [World.size_alloc] at q1
    rw [World.size_setCell]
    omega

theorem sA_set1 (i : Nat) (av av' : Value) (jb : ByteArray) (cv : Value) : (sA i av jb cv).setIfInBounds 1 av' = sA i av' jb cv := rfl
theorem sA_set2 (i : Nat) (av : Value) (jb jb' : ByteArray) (cv : Value) : (sA i av jb cv).setIfInBounds 2 (.string jb') = sA i av jb' cv := rfl
theorem sA_set8 (i : Nat) (av : Value) (jb : ByteArray) (cv cv' : Value) : (sA i av jb cv).setIfInBounds 8 cv' = sA i av jb cv' := rfl

theorem L3.below {w' : World} (h : L3 I i ka kq w1 aA bs CA av qv w) (hb : Below w.heap.size w w') : L3 I i ka kq w1 aA bs CA av qv w' := by
  have hg := grown_below hb (Nat.le_refl _) none
  refine ⟨h.fr.below hb, h.st.below hb h.st.lt, h.sb.below hb h.sb.lt, h.a.below hb h.a.lt, ?_, ?_, h.lt, h.lA, Nat.le_trans h.sz hb.size⟩
  · refine h.ra.kept hg ?_
    cases av.ownBlock <;> simp
  · refine h.rq.kept hg ?_
    cases qv.ownBlock <;> simp

theorem L3.pushA (h : L3 I i ka kq w1 aA bs CA av qv w) (hg : (w.alloc o).grownBy w2 av.ownBlock)
    (hown : w2.ownsRow (bs + 1) 9 1 (.slice (some ⟨g, 0, none⟩) (ka + 1) cap) (ka + 1) (ids (aftTo I i ka) ++ [.string (idB (I.xa i ka % i))])) :
    L3 I i (ka + 1) kq w1 aA bs CA (.slice (some ⟨g, 0, none⟩) (ka + 1) cap) qv (w2.setCell ⟨bs, 1, none⟩ (.slice (some ⟨g, 0, none⟩) (ka + 1) cap)) := by
  rw [ids_snoc, ← aftTo_succ] at hown
  have h1 := h.lt
  have h2 := h.lA
  have hrow : ∀ r, av.ownBlock = some r → bs + 1 ≤ r := fun r hr => (h.ra.lt r hr).1
  have hne : ∀ b, b ≤ bs → some b ≠ av.ownBlock := fun b hb e => by have := hrow b e.symm; omega
  refine ⟨((h.fr.alloc o).grown hg (fun r hr => Or.inr (Or.inr (by have := hrow r hr; omega)))).set _ _ (Or.inr (Or.inr (by show w1.heap.size ≤ bs; omega))), ((h.st.alloc o).grown hg (hne _ (by omega))).other (by show w1.heap.size ≠ bs; omega) _, ?_, ((h.a.alloc o).grown hg (hne _ (by omega))).other (by show aA ≠ bs; omega) _, ?_, ?_, h1, h2, ?_⟩
  · have := ((h.sb.alloc o).grown hg (hne _ (Nat.le_refl _))).set 1 (.slice (some ⟨g, 0, none⟩) (ka + 1) cap)
    rwa [sA_set1] at this
  · exact ownsRow_setCell_below hown (by show bs < bs + 1; omega) _
  · exact ownsRow_setCell_below (rows_apart (h.rq.alloc o) (h.ra.alloc o) (by decide) hg) (by show bs < bs + 1; omega) _
  · have q1 := hg.size
    have q2 := h.sz
    rw [World.size_alloc] at q1
    rw [World.size_setCell]
    omega

end

theorem set_same {C : Array Value} {i : Nat} {v : Value} (h : C[i]? = some v) : C.setIfInBounds i v = C := by
  apply Array.ext_getElem?
  intro j
  rw [Array.getElem?_setIfInBounds]
  by_cases e : i = j
  · subst e
    rw [if_pos rfl, h]
    have : i < C.size := (Array.getElem?_eq_some_iff.1 h).1
    simp [this]
  · rw [if_neg e]

theorem L3.start {I : In} {i : Nat} {w1 w2 : World} {aA : Nat} {CA : Array Value} (hC : Blk w1 aA 38 CA) (hz : CA[i]? = some (.slice none 0 0)) (hb : Below (w1.alloc (.cells (stA I i) 57)).heap.size (w1.alloc (.cells (stA I i) 57)) w2) :
    L3 I i 0 0 w1 aA w2.heap.size CA (.slice none 0 0) (.slice none 0 0) (w2.alloc (.cells (sA i (.slice none 0 0) ⟨#[]⟩ (.slice none 0 0)) 50)) := by
  have hs := hb.size
  have hl := hC.lt
  rw [World.size_alloc] at hs
  refine ⟨(((Fr.refl aA aA w1).alloc _).below hb).alloc _, ((Blk.new w1 _ _).below hb (by simp)).alloc _, Blk.new _ _ _, ?_, World.ownsRow_nil _ _ _ _, World.ownsRow_nil _ _ _ _, by omega, hl, by simp⟩
  rw [set_same hz]
  exact ((hC.alloc _).below hb (by simp; omega)).alloc _

theorem hi_set {lo : Nat} (w : World) (a : Addr) (v : Value) (h : a.block < lo) : Hi lo w (w.setCell a v) := fun b hb _ => Below.heap_setCell w a v b (by omega)
theorem hi_grown {lo : Nat} {w w' : World} {row : Option Nat} (hg : w.grownBy w' row) (hr : ∀ r, row = some r → r < lo) : Hi lo w w' := fun b hb hl => hg.block b hl (fun e => by have := hr b e.symm; omega)
theorem hi_fr {lo x y : Nat} {w w' : World} (h : Fr x y w w') (hx : x < lo) (hy : y < lo) : Hi lo w w' := fun b hb hl => h.block b hl (by omega) (by omega)

/-- behind the third loop and the join -/
structure L4 (I : In) (i : Nat) (w1 : World) (aA bs : Nat) (CA : Array Value) (av qv : Value) (jb : ByteArray) (w : World) : Prop where
  fr : Fr aA aA w1 w
  st : Blk w w1.heap.size 57 (stA I i)
  sb : Blk w bs 50 (sA i av jb (.slice none 0 0))
  a : Blk w aA 38 (CA.setIfInBounds i qv)
  ra : SlR (bs + 1) av (ids (aftOf I i)) w
  rq : SlR (bs + 1) qv (numL (aftOf I i)) w
  lt : w1.heap.size < bs
  lA : aA < w1.heap.size
  sz : bs + 1 ≤ w.heap.size

theorem L3.join {I : In} {i k : Nat} {w1 : World} {aA bs : Nat} {CA : Array Value} {av qv : Value} {w : World} (h : L3 I i k k w1 aA bs CA av qv w) (hk : aftTo I i k = aftOf I i) (jb : ByteArray) : L4 I i w1 aA bs CA av qv jb (w.setCell ⟨bs, 2, none⟩ (.string jb)) := by
  have h1 := h.lt
  have h2 := h.lA
  refine ⟨h.fr.set _ _ (Or.inr (Or.inr (by show w1.heap.size ≤ bs; omega))), h.st.other (by show w1.heap.size ≠ bs; omega) _, ?_, h.a.other (by show aA ≠ bs; omega) _, ?_, ?_, h1, h2, by rw [World.size_setCell]; exact h.sz⟩
  · have := h.sb.set 2 (.string jb)
    rwa [sA_set2] at this
  · rw [← hk]
    exact (SlR.ofOwn h.ra (by rw [ids_length, aftTo_length])).hi (hi_set _ _ _ (by show bs < bs + 1; omega))
  · rw [← hk]
    exact (SlR.ofOwn h.rq (by rw [numL_length, aftTo_length])).hi (hi_set _ _ _ (by show bs < bs + 1; omega))

def thnTo (I : In) (n i k : Nat) : List Nat := (List.range k).map (fun j => I.xt i j % n)
theorem thnTo_succ (I : In) (n i k : Nat) : thnTo I n i (k + 1) = thnTo I n i k ++ [I.xt i k % n] := by unfold thnTo; rw [List.range_succ, List.map_append]; rfl
theorem thnTo_length (I : In) (n i k : Nat) : (thnTo I n i k).length = k := by simp [thnTo]
theorem thnTo_all (I : In) (n i : Nat) : thnTo I n i (I.lt i) = thnOf I n i := rfl

/-- the fourth loop -/
structure L6 (I : In) (n i k : Nat) (w4 : World) (rI : Nat) (iv : Value) (w : World) : Prop where
  fr : Fr rI rI w4 w
  r : Blk w rI 4 (vals n (fun c => .bool (decide (c ∈ thnTo I n i k))))
  row : w.ownsRow w4.heap.size 9 1 iv k (ids (thnTo I n i k))
  lr : rI < w4.heap.size

section
variable {I : In} {n i k : Nat} {w4 : World} {rI : Nat} {iv : Value} {w w2 : World} {g cap : Nat} {o : Obj}

theorem L6.mark (h : L6 I n i k w4 rI iv w) : Fr rI rI w4 (w.setCell ⟨rI, I.xt i k % n, none⟩ (.bool true)) ∧ Blk (w.setCell ⟨rI, I.xt i k % n, none⟩ (.bool true)) rI 4 (vals n (fun c => .bool (decide (c ∈ thnTo I n i (k + 1))))) ∧
    (w.setCell ⟨rI, I.xt i k % n, none⟩ (.bool true)).ownsRow w4.heap.size 9 1 iv k (ids (thnTo I n i k)) := by
  refine ⟨h.fr.set _ _ (Or.inl rfl), ?_, ownsRow_setCell_below h.row h.lr _⟩
  have := h.r.set (I.xt i k % n) (.bool true)
  rw [vals_set] at this
  rw [vals_congr (g' := fun j => if j = I.xt i k % n then .bool true else .bool (decide (j ∈ thnTo I n i k)))]
  · exact this
  · intro c hc
    rw [thnTo_succ]
    by_cases e : c = I.xt i k % n
    · simp [e]
    · simp [e]

theorem L6.push (hf : Fr rI rI w4 w) (hr : Blk w rI 4 (vals n (fun c => .bool (decide (c ∈ thnTo I n i (k + 1)))))) (hrow : w.ownsRow w4.heap.size 9 1 iv k (ids (thnTo I n i k))) (hl : rI < w4.heap.size) {w5 : World} (hb : Below w.heap.size w w5) (hg : (w5.alloc o).grownBy w2 iv.ownBlock)
    (hown : w2.ownsRow w4.heap.size 9 1 (.slice (some ⟨g, 0, none⟩) (k + 1) cap) (k + 1) (ids (thnTo I n i k) ++ [.string (idB (I.xt i k % n))])) : L6 I n i (k + 1) w4 rI (.slice (some ⟨g, 0, none⟩) (k + 1) cap) w2 := by
  rw [ids_snoc, ← thnTo_succ] at hown
  have hrow' : ∀ r, iv.ownBlock = some r → w4.heap.size ≤ r := fun r hr => (hrow.lt r hr).1
  exact ⟨((hf.below hb).alloc o).grown hg (fun r hr => Or.inr (Or.inr (hrow' r hr))), ((hr.below hb hr.lt).alloc o).grown hg (fun e => by have := hrow' _ e.symm; omega), hown, hl⟩

end

/-- behind the fourth loop -/
structure L5 (I : In) (n i : Nat) (w1 : World) (aA rI bs : Nat) (CA : Array Value) (av qv cv : Value) (jb : ByteArray) (w : World) : Prop where
  fr : Fr aA rI w1 w
  sb : Blk w bs 50 (sA i av jb cv)
  a : Blk w aA 38 (CA.setIfInBounds i qv)
  ra : SlR (bs + 1) av (ids (aftOf I i)) w
  rq : SlR (bs + 1) qv (numL (aftOf I i)) w
  ch : ChR (bs + 1) (thnOf I n i) cv w
  r : Blk w rI 4 (vals n (fun c => .bool (decide (c ∈ thnOf I n i))))
  lt : w1.heap.size < bs
  sz : bs + 1 ≤ w.heap.size

theorem Fr.wide {x y : Nat} {w w' : World} (h : Fr x x w w') : Fr x y w w' := ⟨h.os, h.tape, h.output, h.size, fun b hb hx _ => h.block b hb hx hx⟩

/-- no 'Then' -/
theorem L4.noThen {I : In} {n i : Nat} {w1 : World} {aA rI bs : Nat} {CA : Array Value} {av qv : Value} {jb : ByteArray} {w : World} (h : L4 I i w1 aA bs CA av qv jb w) (hr : Blk w1 rI 4 (vals n (fun k => .bool (decide (i < i) && decide (k ∈ thnOf I n i))))) (hne : rI ≠ aA) (h0 : I.lt i = 0) :
    L5 I n i w1 aA rI bs CA av qv (.slice none 0 0) jb w := by
  have ht : thnOf I n i = [] := by unfold thnOf; rw [h0]; rfl
  refine ⟨h.fr.wide, h.sb, h.a, h.ra, h.rq, Or.inl ⟨ht, rfl⟩, ?_, h.lt, h.sz⟩
  have := h.fr.blk hr hne hne
  rw [ht]
  simpa using this

/-- the loop's start -/
theorem L4.loop {I : In} {n i : Nat} {w1 : World} {aA rI bs : Nat} {CA : Array Value} {av qv : Value} {jb : ByteArray} {w : World} (h : L4 I i w1 aA bs CA av qv jb w) (hr : Blk w1 rI 4 (vals n (fun k => .bool (decide (i < i) && decide (k ∈ thnOf I n i))))) (hne : rI ≠ aA) :
    L6 I n i 0 w rI (.slice none 0 0) w := by
  have := h.fr.blk hr hne hne
  exact ⟨Fr.refl _ _ _, by simpa [thnTo] using this, World.ownsRow_nil _ _ _ _, this.lt⟩

/-- behind the loop: the branch is laid -/
theorem L6.done {I : In} {n i : Nat} {w1 w4 : World} {aA rI bs : Nat} {CA : Array Value} {av qv iv : Value} {jb : ByteArray} {w : World} (h4 : L4 I i w1 aA bs CA av qv jb w4) (h : L6 I n i (I.lt i) w4 rI iv w) (hne : rI ≠ aA) (hrl : rI < w1.heap.size) (h0 : 0 < I.lt i) :
    L5 I n i w1 aA rI bs CA av qv (.slice (some ⟨w.heap.size, 0, none⟩) 1 1) jb ((w.alloc (.cells #[.slice none 0 0, iv] 60)).setCell ⟨bs, 8, none⟩ (.slice (some ⟨w.heap.size, 0, none⟩) 1 1)) := by
  have h1 := h4.lt
  have h2 := h4.lA
  have h3 := h4.sz
  have h5 := h.fr.size
  have hhi : Hi (bs + 1) w4 ((w.alloc (.cells #[.slice none 0 0, iv] 60)).setCell ⟨bs, 8, none⟩ (.slice (some ⟨w.heap.size, 0, none⟩) 1 1)) := by
    intro b hb hl
    rw [Below.heap_setCell _ _ _ _ (by show b ≠ bs; omega), Below.heap_alloc _ _ _ (by omega)]
    exact h.fr.block b hl (by omega) (by omega)
  have hhi' : Hi (bs + 1) w ((w.alloc (.cells #[.slice none 0 0, iv] 60)).setCell ⟨bs, 8, none⟩ (.slice (some ⟨w.heap.size, 0, none⟩) 1 1)) := by
    intro b hb hl
    rw [Below.heap_setCell _ _ _ _ (by show b ≠ bs; omega), Below.heap_alloc _ _ _ hl]
  have hnew : Blk ((w.alloc (.cells #[.slice none 0 0, iv] 60)).setCell ⟨bs, 8, none⟩ (.slice (some ⟨w.heap.size, 0, none⟩) 1 1)) w.heap.size 60 #[.slice none 0 0, iv] := (Blk.new w _ _).other (by show w.heap.size ≠ bs; omega) _
  refine ⟨⟨?_, ?_, ?_, ?_, fun b hb hx hy => ?_⟩, ?_, ?_, h4.ra.hi hhi, h4.rq.hi hhi, ?_, ?_, h1, ?_⟩
  · exact h.fr.os.trans h4.fr.os
  · exact h.fr.tape.trans h4.fr.tape
  · exact h.fr.output.trans h4.fr.output
  · rw [World.size_setCell, World.size_alloc]; have := h4.fr.size; omega
  · rw [Below.heap_setCell _ _ _ _ (by show b ≠ bs; omega), Below.heap_alloc _ _ _ (by omega), h.fr.block b (by omega) hy hy]
    exact h4.fr.block b hb hx hx
  · have := ((h.fr.blk h4.sb (by omega) (by omega)).alloc (.cells #[.slice none 0 0, iv] 60)).set 8 (.slice (some ⟨w.heap.size, 0, none⟩) 1 1)
    rwa [sA_set8] at this
  · exact ((h.fr.blk h4.a (fun e => hne e.symm) (fun e => hne e.symm)).alloc _).other (by show aA ≠ bs; omega) _
  · refine Or.inr ⟨?_, w.heap.size, iv, rfl, by omega, by rw [hnew.cell]; rfl, by rw [hnew.cell]; rfl, ?_⟩
    · intro e
      have := thnTo_length I n i (I.lt i)
      rw [thnTo_all, e] at this
      simp at this
      omega
    · rw [← thnTo_all]
      exact ((SlR.ofOwn h.row (by rw [ids_length, thnTo_length])).lower (by omega)).hi hhi'
  · rw [← thnTo_all]
    exact (h.r.alloc _).other (by show rI ≠ bs; omega) _
  · rw [World.size_setCell, World.size_alloc]; omega

/-- a step is stored into the row of steps -/
def put12 (w : World) (pS i : Nat) (av cv : Value) (jb : ByteArray) : World := ((((((((((((w.setCell ⟨pS, i * 12, none⟩ (.string (idB i))).setCell ⟨pS, i * 12 + 1, none⟩ av).setCell ⟨pS, i * 12 + 2, none⟩ (.string jb)).setCell ⟨pS, i * 12 + 3, none⟩ (.pointer none)).setCell ⟨pS, i * 12 + 4, none⟩ (.pointer none)).setCell ⟨pS, i * 12 + 5, none⟩ (.bool false)).setCell ⟨pS, i * 12 + 6, none⟩ (.string compB)).setCell ⟨pS, i * 12 + 7, none⟩ (.slice none 0 0)).setCell ⟨pS, i * 12 + 8, none⟩ cv).setCell ⟨pS, i * 12 + 9, none⟩ (.slice none 0 0)).setCell ⟨pS, i * 12 + 10, none⟩ (.pointer none)).setCell ⟨pS, i * 12 + 11, none⟩ (.slice none 0 0))
def arr12 (C : Array Value) (i : Nat) (av cv : Value) (jb : ByteArray) : Array Value := ((((((((((((C.setIfInBounds (i * 12) (.string (idB i))).setIfInBounds (i * 12 + 1) av).setIfInBounds (i * 12 + 2) (.string jb)).setIfInBounds (i * 12 + 3) (.pointer none)).setIfInBounds (i * 12 + 4) (.pointer none)).setIfInBounds (i * 12 + 5) (.bool false)).setIfInBounds (i * 12 + 6) (.string compB)).setIfInBounds (i * 12 + 7) (.slice none 0 0)).setIfInBounds (i * 12 + 8) cv).setIfInBounds (i * 12 + 9) (.slice none 0 0)).setIfInBounds (i * 12 + 10) (.pointer none)).setIfInBounds (i * 12 + 11) (.slice none 0 0))
theorem put12_grown (w : World) (pS i : Nat) (av cv : Value) (jb : ByteArray) : w.grownBy (put12 w pS i av cv jb) (some pS) := ((((((((((((grown_refl w (some pS)).andThen (grown_set _ ⟨pS, i * 12, none⟩ (.string (idB i))) (fun j hj => Or.inr hj)).andThen (grown_set _ ⟨pS, i * 12 + 1, none⟩ av) (fun j hj => Or.inr hj)).andThen (grown_set _ ⟨pS, i * 12 + 2, none⟩ (.string jb)) (fun j hj => Or.inr hj)).andThen (grown_set _ ⟨pS, i * 12 + 3, none⟩ (.pointer none)) (fun j hj => Or.inr hj)).andThen (grown_set _ ⟨pS, i * 12 + 4, none⟩ (.pointer none)) (fun j hj => Or.inr hj)).andThen (grown_set _ ⟨pS, i * 12 + 5, none⟩ (.bool false)) (fun j hj => Or.inr hj)).andThen (grown_set _ ⟨pS, i * 12 + 6, none⟩ (.string compB)) (fun j hj => Or.inr hj)).andThen (grown_set _ ⟨pS, i * 12 + 7, none⟩ (.slice none 0 0)) (fun j hj => Or.inr hj)).andThen (grown_set _ ⟨pS, i * 12 + 8, none⟩ cv) (fun j hj => Or.inr hj)).andThen (grown_set _ ⟨pS, i * 12 + 9, none⟩ (.slice none 0 0)) (fun j hj => Or.inr hj)).andThen (grown_set _ ⟨pS, i * 12 + 10, none⟩ (.pointer none)) (fun j hj => Or.inr hj)).andThen (grown_set _ ⟨pS, i * 12 + 11, none⟩ (.slice none 0 0)) (fun j hj => Or.inr hj)
theorem put12_blk {w : World} {pS : Nat} {C : Array Value} (h : Blk w pS 50 C) (i : Nat) (av cv : Value) (jb : ByteArray) : Blk (put12 w pS i av cv jb) pS 50 (arr12 C i av cv jb) := ((((((((((((h).set (i * 12) (.string (idB i))).set (i * 12 + 1) av).set (i * 12 + 2) (.string jb)).set (i * 12 + 3) (.pointer none)).set (i * 12 + 4) (.pointer none)).set (i * 12 + 5) (.bool false)).set (i * 12 + 6) (.string compB)).set (i * 12 + 7) (.slice none 0 0)).set (i * 12 + 8) cv).set (i * 12 + 9) (.slice none 0 0)).set (i * 12 + 10) (.pointer none)).set (i * 12 + 11) (.slice none 0 0)
theorem arr12_size (C : Array Value) (i : Nat) (av cv : Value) (jb : ByteArray) : (arr12 C i av cv jb).size = C.size := by simp [arr12]
theorem arr12_other (C : Array Value) (i : Nat) (av cv : Value) (jb : ByteArray) (x : Nat) (hx : x < i * 12 ∨ i * 12 + 12 ≤ x) : (arr12 C i av cv jb)[x]? = C[x]? := by
  unfold arr12
  simp only [Array.getElem?_setIfInBounds]
  rw [if_neg (by omega), if_neg (by omega), if_neg (by omega), if_neg (by omega), if_neg (by omega), if_neg (by omega), if_neg (by omega), if_neg (by omega), if_neg (by omega), if_neg (by omega), if_neg (by omega), if_neg (by omega)]
theorem arr12_at (C : Array Value) (i : Nat) (av cv : Value) (jb : ByteArray) (h : i * 12 + 12 ≤ C.size) :
    (arr12 C i av cv jb)[i * 12]? = some (.string (idB i)) ∧ (arr12 C i av cv jb)[i * 12 + 1]? = some av ∧ (arr12 C i av cv jb)[i * 12 + 2]? = some (.string jb) ∧ (arr12 C i av cv jb)[i * 12 + 6]? = some (.string compB) ∧ (arr12 C i av cv jb)[i * 12 + 8]? = some cv ∧ (arr12 C i av cv jb)[i * 12 + 11]? = some (.slice none 0 0) := by
  have h0 : i * 12 < C.size := by omega
  have h1 : i * 12 + 1 < C.size := by omega
  have h2 : i * 12 + 2 < C.size := by omega
  have h6 : i * 12 + 6 < C.size := by omega
  have h8 : i * 12 + 8 < C.size := by omega
  have h11 : i * 12 + 11 < C.size := by omega
  unfold arr12
  refine ⟨?_, ?_, ?_, ?_, ?_, ?_⟩ <;> simp [h0, h1, h2, h6, h8, h11]

theorem SCells.keep {I : In} {n : Nat} {aj : Bool} {lo j : Nat} {C C' : Array Value} {w w' : World} (h : SCells I n aj lo j C w) (hC : ∀ f, f < 12 → C'[j * 12 + f]? = C[j * 12 + f]?) (hh : Hi lo w w') : SCells I n aj lo j C' w' := by
  refine ⟨?_, ?_, ?_, ?_, ?_, ?_⟩
  · have := hC 0 (by omega); simp only [Nat.add_zero] at this; rw [this]; exact h.id
  · obtain ⟨v, h1, h2⟩ := h.aft
    exact ⟨v, (hC 1 (by omega)).trans h1, h2.hi hh⟩
  · exact (hC 2 (by omega)).trans h.join
  · exact (hC 6 (by omega)).trans h.kind
  · obtain ⟨v, h1, h2⟩ := h.ch
    exact ⟨v, (hC 8 (by omega)).trans h1, h2.hi hh⟩
  · exact (hC 11 (by omega)).trans h.al

theorem BI.next {I : In} {n : Nat} {aj : Bool} {H pP pS aA aT rB : Nat} {w0 w1 wD w9 : World} {i bs : Nat} {CA : Array Value} {av qv cv : Value} (h : BI I n aj H pP pS aA aT rB w0 i w1) (ok : BOk H pP pS aA aT rB) (hi : i < n)
    (hC : Blk w1 aA 38 CA) (hCr : CA.size = n ∧ (∀ j, i ≤ j → j < n → CA[j]? = some (.slice none 0 0)) ∧ ∀ j, j < i → ∃ v, CA[j]? = some v ∧ SlR (rB + n) v (numL (aftOf I j)) w1)
    (h5 : L5 I n i w1 aA (rB + i) bs CA av qv cv (jnB (jnOf I aj i)) wD) (hg : (put12 wD pS i av cv (jnB (jnOf I aj i))).grownBy w9 (some H)) (hm : MapIs w9 H (updF (fun k => if k < i then some (.int .i64 (k : Int)) else none) i (.int .i64 (i : Int)))) :
    BI I n aj H pP pS aA aT rB w0 (i + 1) w9 := by
  obtain ⟨k1, k2, k3, k4, k5⟩ := ok
  have hsz := h.sz
  have hlt := h5.lt
  have hg1 := put12_grown wD pS i av cv (jnB (jnOf I aj i))
  have hblk : ∀ b, b < w1.heap.size → b ≠ aA → b ≠ rB + i → b ≠ pS → b ≠ H → w9.heap[b]? = w1.heap[b]? := fun b hb x1 x2 x3 x4 =>
    ((hg.block b (by have := hg1.size; have := h5.fr.size; omega) (by simp [x4])).trans (hg1.block b (by have := h5.fr.size; omega) (by simp [x3]))).trans (h5.fr.block b hb x1 x2)
  have hB : ∀ {b t C}, Blk w1 b t C → b ≠ aA → b ≠ rB + i → b ≠ pS → b ≠ H → Blk w9 b t C := fun {b t C} hb x1 x2 x3 x4 => by
    unfold Blk
    rw [hblk b hb.lt x1 x2 x3 x4]
    exact hb
  have hD : ∀ {b t C}, Blk wD b t C → b ≠ pS → b ≠ H → Blk w9 b t C := fun {b t C} hb x3 x4 => (hb.grown hg1 (by simp [x3])).grown hg (by simp [x4])
  have hhi : Hi (rB + n) w1 w9 := fun b hb hl => hblk b hl (by omega) (by omega) (by omega) (by omega)
  have hhD : Hi (bs + 1) wD w9 := fun b hb hl => (hg.block b (by have := hg1.size; omega) (by simp; omega)).trans (hg1.block b hl (by simp; omega))
  refine ⟨⟨?_, ?_, ?_, ?_, fun b hb => ?_⟩, ?_, ?_, ?_, ?_, ?_, fun j hj => ?_, ?_⟩
  · exact (hg.os.trans hg1.os).trans (h5.fr.os.trans h.bl.os)
  · exact (hg.tape.trans hg1.tape).trans (h5.fr.tape.trans h.bl.tape)
  · exact (hg.output.trans hg1.output).trans (h5.fr.output.trans h.bl.output)
  · have := h.bl.size; have := h5.fr.size; have := hg1.size; have := hg.size; omega
  · rw [hblk b (by omega) (by omega) (by omega) (by omega) (by omega)]
    exact h.bl.block b hb
  · have := h5.fr.size; have := hg1.size; have := hg.size; omega
  · obtain ⟨C, hC, a, b⟩ := h.p
    exact ⟨C, hB hC (by omega) (by omega) (by omega) (by omega), a, b⟩
  · obtain ⟨C, hC, hn, hr⟩ := h.s
    have hCD := put12_blk (h5.fr.blk hC (by omega) (by omega)) i av cv (jnB (jnOf I aj i))
    refine ⟨_, hCD.grown hg (by simp; omega), by rw [arr12_size]; exact hn, fun j hj => ?_⟩
    by_cases e : j = i
    · subst e
      obtain ⟨a0, a1, a2, a6, a8, a11⟩ := arr12_at C j av cv (jnB (jnOf I aj j)) (by rw [hn]; omega)
      exact ⟨a0, ⟨av, a1, (h5.ra.hi hhD).lower (by omega)⟩, a2, a6, ⟨cv, a8, (h5.ch.hi hhD).lower (by omega)⟩, a11⟩
    · exact (hr j (by omega)).keep (fun f hf => arr12_other C i av cv _ _ (by omega)) hhi
  · obtain ⟨c1, c2, c3⟩ := hCr
    refine ⟨_, hD h5.a (by omega) (by omega), by simpa using c1, fun j h1 h2 => ?_, fun j hj => ?_⟩
    · rw [Array.getElem?_setIfInBounds, if_neg (by omega)]
      exact c2 j (by omega) h2
    · by_cases e : j = i
      · subst e
        exact ⟨qv, by rw [Array.getElem?_setIfInBounds_self_of_lt (by omega)], (h5.rq.hi hhD).lower (by omega)⟩
      · obtain ⟨v, h1, h2⟩ := c3 j (by omega)
        exact ⟨v, by rw [Array.getElem?_setIfInBounds, if_neg (by omega)]; exact h1, h2.hi hhi⟩
  · exact hB h.t (by omega) (by omega) (by omega) (by omega)
  · by_cases e : j = i
    · subst e
      have := hD h5.r (by omega) (by omega)
      simpa using this
    · have := hB (h.r j hj) (by omega) (by omega) (by omega) (by omega)
      rw [show decide (j < i + 1) = decide (j < i) by rw [decide_eq_decide]; omega]
      exact this
  · have e : updF (fun k => if k < i then some (Value.int .i64 (k : Int)) else none) i (.int .i64 (i : Int)) = fun k => if k < i + 1 then some (Value.int .i64 (k : Int)) else none := by
      funext k
      unfold updF
      by_cases e : k = i
      · subst e; simp
      · rw [if_neg e]
        dsimp only
        by_cases e2 : k < i
        · rw [if_pos e2, if_pos (by omega)]
        · rw [if_neg e2, if_neg (by omega)]
    rw [← e]
    exact hm

theorem BI.next' {I : In} {n : Nat} {aj : Bool} {H pP pS aA aT rB : Nat} {w0 w1 wD wE : World} {i bs : Nat} {CA : Array Value} {av qv cv : Value} (h : BI I n aj H pP pS aA aT rB w0 i w1) (ok : BOk H pP pS aA aT rB) (hi : i < n)
    (hC : Blk w1 aA 38 CA) (hCr : CA.size = n ∧ (∀ j, i ≤ j → j < n → CA[j]? = some (.slice none 0 0)) ∧ ∀ j, j < i → ∃ v, CA[j]? = some v ∧ SlR (rB + n) v (numL (aftOf I j)) w1)
    (h5 : L5 I n i w1 aA (rB + i) bs CA av qv cv (jnB (jnOf I aj i)) wD) (hE : put12 wD pS i av cv (jnB (jnOf I aj i)) = wE) :
    (wE.cell? ⟨pP, 6, none⟩ = some (.map (some H)) ∧ wE.cell? ⟨bs, 0, none⟩ = some (.string (idB i))) ∧ (i < 48 → ∃ w9, (Instr.mapUpdate 33 (.map (some H)) (.string (idB i)) (.int .i64 (i : Int))).run Yba.prog wE.drew.drew = .ok () w9 ∧ BI I n aj H pP pS aA aT rB w0 (i + 1) w9) := by
  have hgE := put12_grown wD pS i av cv (jnB (jnOf I aj i))
  rw [hE] at hgE
  obtain ⟨k1, k2, k3, k4, k5⟩ := id ok
  obtain ⟨CP, hCP, hP1, hP6⟩ := h.p
  have hPD := h5.fr.blk hCP (by omega) (by omega)
  have hlt := h5.lt
  have hsz := h.sz
  refine ⟨⟨?_, ?_⟩, fun h48 => ?_⟩
  · rw [(hPD.grown hgE (by simp; omega)).cell, hP6]
  · rw [(h5.sb.grown hgE (by simp; omega)).cell]; rfl
  · have hm1 := h.m
    have hlt1 := hm1.lt
    have hmD : MapIs wD H (fun k => if k < i then some (.int .i64 (k : Int)) else none) := by
      obtain ⟨D, ⟨es, clock, hbk, r⟩, hr⟩ := hm1
      exact ⟨D, ⟨es, clock, (h5.fr.block _ hlt1 (by omega) (by omega)).trans hbk, r⟩, hr⟩
    have hmE : MapIs wE H (fun k => if k < i then some (.int .i64 (k : Int)) else none) := hmD.grown hgE (by simp; omega)
    obtain ⟨w9, hup, hM9, hg9, _⟩ := (hmE.drew.drew).update Yba.underlying33 h48 (.int .i64 (i : Int))
    refine ⟨w9, hup, h.next ok hi hC hCr h5 ?_ hM9⟩
    rw [hE]
    exact ((grown_drew wE (some H)).andThen (grown_drew _ none) (fun j hj => by cases hj)).andThen hg9 (fun j hj => Or.inr hj)

end Go.Proofs.Ybulkcnke
