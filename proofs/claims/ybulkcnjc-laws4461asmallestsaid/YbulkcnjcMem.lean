/-
  components: what lies in memory.
-/
import Derived.Test.YbulkcnjcFound
namespace Go.Proofs.Ybulkcnjc
open Go.RowKit
set_option linter.unusedVariables false

def ints (n : Nat) (f : Nat → Nat) : Array Value := ((List.range n).map (fun v => Value.int .i32 (f v : Int))).toArray
def bools (n : Nat) (f : Nat → Bool) : Array Value := ((List.range n).map (fun v => Value.bool (f v))).toArray
def frames (p : List (Nat × Nat)) : List Value := p.flatMap (fun f => [Value.int .i32 (f.1 : Int), Value.int .i64 (f.2 : Int)])
def nodes (l : List Nat) : List Value := l.map (fun v : Nat => Value.int .i32 (v : Int))

theorem ints_size (n : Nat) (f : Nat → Nat) : (ints n f).size = n := by simp [ints]
theorem bools_size (n : Nat) (f : Nat → Bool) : (bools n f).size = n := by simp [bools]
theorem ints_at (n : Nat) (f : Nat → Nat) (i : Nat) (h : i < n) : (ints n f)[i]? = some (Value.int .i32 (f i : Int)) := by simp [ints, h]
theorem bools_at (n : Nat) (f : Nat → Bool) (i : Nat) (h : i < n) : (bools n f)[i]? = some (Value.bool (f i)) := by simp [bools, h]

theorem ints_set (n : Nat) (f : Nat → Nat) (i x : Nat) : (ints n f).setIfInBounds i (Value.int .i32 (x : Int)) = ints n (Tj.upd f i x) := by
  apply Array.ext
  · simp [ints]
  · intro j h1 h2
    have hj : j < n := by simpa [ints] using h2
    rw [Array.getElem_setIfInBounds (by simpa [ints] using hj)]
    by_cases e : i = j
    · subst e
      simp [ints, Tj.upd]
    · have : j ≠ i := fun h => e h.symm
      simp [ints, Tj.upd, e, this]

theorem bools_set (n : Nat) (f : Nat → Bool) (i : Nat) (x : Bool) : (bools n f).setIfInBounds i (Value.bool x) = bools n (Tj.upd f i x) := by
  apply Array.ext
  · simp [bools]
  · intro j h1 h2
    have hj : j < n := by simpa [bools] using h2
    rw [Array.getElem_setIfInBounds (by simpa [bools] using hj)]
    by_cases e : i = j
    · subst e
      simp [bools, Tj.upd]
    · have : j ≠ i := fun h => e h.symm
      simp [bools, Tj.upd, e, this]

theorem frames_length (p : List (Nat × Nat)) : (frames p).length = p.length * 2 := by
  induction p with
  | nil => rfl
  | cons f p ih => simp [frames] at *; omega
theorem frames_append (p q : List (Nat × Nat)) : frames (p ++ q) = frames p ++ frames q := by simp [frames]
theorem nodes_length (l : List Nat) : (nodes l).length = l.length := by simp [nodes]

theorem frames_top (fs : List (Nat × Nat)) (v c : Nat) :
    (frames (fs ++ [(v, c)]))[fs.length * 2]? = some (.int .i32 (v : Int)) ∧ (frames (fs ++ [(v, c)]))[fs.length * 2 + 1]? = some (.int .i64 (c : Int)) := by
  have h := frames_length fs
  rw [frames_append]
  constructor
  · rw [List.getElem?_append_right (by omega), h]
    simp [frames]
  · rw [List.getElem?_append_right (by omega), h, show fs.length * 2 + 1 - fs.length * 2 = 1 by omega]
    simp [frames]

/-- the blocks -/
structure Bk where
  m : Nat
  bS : Nat
  bX : Nat
  bG : Nat
  aO : Nat
  bO : Nat
  aL : Nat
  bL : Nat
  aN : Nat
  bN : Nat
  bP : Nat
  bQ : Nat
  bR : Nat
  base : Nat

/-- they lie one behind the other -/
structure Bk.Ok (k : Bk) : Prop where
  sG : k.bS < k.bG
  xG : k.bX < k.bG
  gO : k.bG < k.aO
  oO : k.aO < k.bO
  oL : k.bO < k.aL
  lL : k.aL < k.bL
  lN : k.bL < k.aN
  nN : k.aN < k.bN
  nP : k.bN < k.bP
  pQ : k.bP < k.bQ
  qR : k.bQ < k.bR
  rB : k.bR < k.base

/-- one block, whole -/
def Blk (w : World) (b : Nat) (t : TypeId) (C : Array Value) : Prop := w.heap[b]? = some (.cells C t (0, 0))

theorem Blk.cell {w : World} {b : Nat} {t : TypeId} {C : Array Value} (h : Blk w b t C) (i : Nat) : w.cell? ⟨b, i, none⟩ = C[i]? := by
  unfold Blk at h
  simp [World.cell?, h]
theorem Blk.free {w : World} {b : Nat} {t : TypeId} {C : Array Value} (h : Blk w b t C) (i : Nat) : w.frozen? ⟨b, i, none⟩ = false := by
  unfold Blk at h
  simp [World.frozen?, h]
theorem Blk.lt {w : World} {b : Nat} {t : TypeId} {C : Array Value} (h : Blk w b t C) : b < w.heap.size := lt_of_block h
theorem Blk.one {w : World} {b : Nat} {t : TypeId} {v : Value} (h : Blk w b t #[v]) : w.cell? ⟨b, 0, none⟩ = some v := by rw [h.cell]; rfl
theorem Blk.set {w : World} {b : Nat} {t : TypeId} {C : Array Value} (h : Blk w b t C) (i : Nat) (v : Value) : Blk (w.setCell ⟨b, i, none⟩ v) b t (C.setIfInBounds i v) := by
  unfold Blk at h ⊢
  have hb := lt_of_block h
  rw [World.setCell]
  simp only [Array.getElem?_modify]
  simp [h]
theorem Blk.other {w : World} {b : Nat} {t : TypeId} {C : Array Value} (h : Blk w b t C) {a : Addr} (ha : b ≠ a.block) (v : Value) : Blk (w.setCell a v) b t C := by
  unfold Blk at h ⊢
  rw [Below.heap_setCell w a v b ha]
  exact h
theorem Blk.alloc {w : World} {b : Nat} {t : TypeId} {C : Array Value} (h : Blk w b t C) (o : Obj) : Blk (w.alloc o) b t C := by
  unfold Blk
  rw [Below.heap_alloc w o b h.lt]
  exact h
theorem Blk.below {w w' : World} {b : Nat} {t : TypeId} {C : Array Value} (h : Blk w b t C) {B : Nat} (hb : Below B w w') (hB : b < B) : Blk w' b t C := by
  unfold Blk
  rw [hb.block b hB]
  exact h
theorem Blk.grown {w w' : World} {b : Nat} {t : TypeId} {C : Array Value} (h : Blk w b t C) {row : Option Nat} (hg : w.grownBy w' row) (hne : some b ≠ row) : Blk w' b t C := by
  unfold Blk
  rw [hg.block b h.lt hne]
  exact h

structure Mem (g : Tj.G) (k : Bk) (s : Tj.S) (w : World) : Prop where
  sz : k.base ≤ w.heap.size
  gm : GMem g k.m k.bS k.bX w
  gBox : Blk w k.bG 42 #[.iface 29 (gv g.n k.m k.bS k.bX)]
  oArr : Blk w k.aO 21 (ints g.n s.ord)
  oBox : Blk w k.bO 23 #[.slice (some ⟨k.aO, 0, none⟩) g.n g.n]
  lArr : Blk w k.aL 21 (ints g.n s.low)
  lBox : Blk w k.bL 23 #[.slice (some ⟨k.aL, 0, none⟩) g.n g.n]
  nArr : Blk w k.aN 4 (bools g.n s.on)
  nBox : Blk w k.bN 30 #[.slice (some ⟨k.aN, 0, none⟩) g.n g.n]
  pBox : ∃ pv, Blk w k.bP 62 #[pv] ∧ w.ownsRow k.base 66 2 pv s.path.length (frames s.path)
  qBox : ∃ qv, Blk w k.bQ 23 #[qv] ∧ w.ownsRow k.base 21 1 qv s.opn.length (nodes s.opn)
  rBox : Blk w k.bR 21 #[.int .i32 (s.cnt : Int)]

theorem GMem.other {g : Tj.G} {m bS bX : Nat} {w w' : World} (h : GMem g m bS bX w) (hS : w'.heap[bS]? = w.heap[bS]?) (hX : w'.heap[bX]? = w.heap[bX]?) : GMem g m bS bX w' :=
  ⟨fun i hi => (World.cell?_of_block (a := ⟨bS, i, none⟩) hS).trans (h.st i hi), fun c hc => (World.cell?_of_block (a := ⟨bX, c, none⟩) hX).trans (h.sc c hc)⟩

theorem owns_below {base : Nat} {e : TypeId} {size : Nat} {v : Value} {n : Nat} {xs : List Value} {w w1 : World} (h : w.ownsRow base e size v n xs) (hb : Below w.heap.size w w1) :
    w1.ownsRow base e size v n xs := by
  cases hv : v.ownBlock with
  | none => exact h.kept (row := none) ⟨hb.os, hb.tape, hb.output, hb.size, fun k hk _ => hb.block k hk⟩ (Or.inl hv)
  | some k => exact h.kept (row := none) ⟨hb.os, hb.tape, hb.output, hb.size, fun k hk _ => hb.block k hk⟩ (Or.inr (by simp [hv]))

theorem Mem.below {g : Tj.G} {k : Bk} {s : Tj.S} {w w' : World} (h : Mem g k s w) (ok : k.Ok) (hb : Below w.heap.size w w') : Mem g k s w' := by
  have hz := h.sz
  have h1 := ok.sG
  have h2 := ok.xG
  have h3 := h.gBox.lt
  have hs := hb.size
  refine ⟨by omega, h.gm.other (hb.block _ (by omega)) (hb.block _ (by omega)), h.gBox.below hb h.gBox.lt, h.oArr.below hb h.oArr.lt, h.oBox.below hb h.oBox.lt, h.lArr.below hb h.lArr.lt, h.lBox.below hb h.lBox.lt, h.nArr.below hb h.nArr.lt, h.nBox.below hb h.nBox.lt, ?_, ?_, h.rBox.below hb h.rBox.lt⟩
  · obtain ⟨pv, hp1, hp2⟩ := h.pBox
    exact ⟨pv, hp1.below hb hp1.lt, owns_below hp2 hb⟩
  · obtain ⟨qv, hq1, hq2⟩ := h.qBox
    exact ⟨qv, hq1.below hb hq1.lt, owns_below hq2 hb⟩


theorem GMem.set {g : Tj.G} {k : Bk} {w : World} (h : GMem g k.m k.bS k.bX w) (ok : k.Ok) {a : Addr} (ha : k.bG < a.block) (v : Value) : GMem g k.m k.bS k.bX (w.setCell a v) := by
  have h1 := ok.sG
  have h2 := ok.xG
  exact h.other (Below.heap_setCell w a v _ (by omega)) (Below.heap_setCell w a v _ (by omega))

section
variable {g : Tj.G} {k : Bk} {s : Tj.S} {w : World}

theorem Mem.setR (h : Mem g k s w) (ok : k.Ok) (c : Nat) : Mem g k { s with cnt := c } (w.setCell ⟨k.bR, 0, none⟩ (.int .i32 (c : Int))) := by
  obtain ⟨o1, o2, o3, o4, o5, o6, o7, o8, o9, o10, o11, o12⟩ := id ok
  obtain ⟨pv, hP, hpr⟩ := h.pBox
  obtain ⟨qv, hQ, hqr⟩ := h.qBox
  exact ⟨by simpa using h.sz, h.gm.set ok (by show k.bG < k.bR; omega) _, h.gBox.other (by show k.bG ≠ k.bR; omega) _, h.oArr.other (by show k.aO ≠ k.bR; omega) _, h.oBox.other (by show k.bO ≠ k.bR; omega) _, h.lArr.other (by show k.aL ≠ k.bR; omega) _, h.lBox.other (by show k.bL ≠ k.bR; omega) _,
    h.nArr.other (by show k.aN ≠ k.bR; omega) _, h.nBox.other (by show k.bN ≠ k.bR; omega) _, ⟨pv, hP.other (by show k.bP ≠ k.bR; omega) _, ownsRow_setCell_below hpr (by show k.bR < k.base; omega) _⟩, ⟨qv, hQ.other (by show k.bQ ≠ k.bR; omega) _, ownsRow_setCell_below hqr (by show k.bR < k.base; omega) _⟩, h.rBox.set 0 _⟩

theorem Mem.setO (h : Mem g k s w) (ok : k.Ok) (i x : Nat) : Mem g k { s with ord := Tj.upd s.ord i x } (w.setCell ⟨k.aO, i, none⟩ (.int .i32 (x : Int))) := by
  obtain ⟨o1, o2, o3, o4, o5, o6, o7, o8, o9, o10, o11, o12⟩ := id ok
  obtain ⟨pv, hP, hpr⟩ := h.pBox
  obtain ⟨qv, hQ, hqr⟩ := h.qBox
  exact ⟨by simpa using h.sz, h.gm.set ok (by show k.bG < k.aO; omega) _, h.gBox.other (by show k.bG ≠ k.aO; omega) _, by have := h.oArr.set i (.int .i32 (x : Int)); rwa [ints_set] at this, h.oBox.other (by show k.bO ≠ k.aO; omega) _, h.lArr.other (by show k.aL ≠ k.aO; omega) _, h.lBox.other (by show k.bL ≠ k.aO; omega) _,
    h.nArr.other (by show k.aN ≠ k.aO; omega) _, h.nBox.other (by show k.bN ≠ k.aO; omega) _, ⟨pv, hP.other (by show k.bP ≠ k.aO; omega) _, ownsRow_setCell_below hpr (by show k.aO < k.base; omega) _⟩, ⟨qv, hQ.other (by show k.bQ ≠ k.aO; omega) _, ownsRow_setCell_below hqr (by show k.aO < k.base; omega) _⟩, h.rBox.other (by show k.bR ≠ k.aO; omega) _⟩

theorem Mem.setL (h : Mem g k s w) (ok : k.Ok) (i x : Nat) : Mem g k { s with low := Tj.upd s.low i x } (w.setCell ⟨k.aL, i, none⟩ (.int .i32 (x : Int))) := by
  obtain ⟨o1, o2, o3, o4, o5, o6, o7, o8, o9, o10, o11, o12⟩ := id ok
  obtain ⟨pv, hP, hpr⟩ := h.pBox
  obtain ⟨qv, hQ, hqr⟩ := h.qBox
  exact ⟨by simpa using h.sz, h.gm.set ok (by show k.bG < k.aL; omega) _, h.gBox.other (by show k.bG ≠ k.aL; omega) _, h.oArr.other (by show k.aO ≠ k.aL; omega) _, h.oBox.other (by show k.bO ≠ k.aL; omega) _, by have := h.lArr.set i (.int .i32 (x : Int)); rwa [ints_set] at this, h.lBox.other (by show k.bL ≠ k.aL; omega) _,
    h.nArr.other (by show k.aN ≠ k.aL; omega) _, h.nBox.other (by show k.bN ≠ k.aL; omega) _, ⟨pv, hP.other (by show k.bP ≠ k.aL; omega) _, ownsRow_setCell_below hpr (by show k.aL < k.base; omega) _⟩, ⟨qv, hQ.other (by show k.bQ ≠ k.aL; omega) _, ownsRow_setCell_below hqr (by show k.aL < k.base; omega) _⟩, h.rBox.other (by show k.bR ≠ k.aL; omega) _⟩

theorem Mem.setN (h : Mem g k s w) (ok : k.Ok) (i : Nat) (x : Bool) : Mem g k { s with on := Tj.upd s.on i x } (w.setCell ⟨k.aN, i, none⟩ (.bool x)) := by
  obtain ⟨o1, o2, o3, o4, o5, o6, o7, o8, o9, o10, o11, o12⟩ := id ok
  obtain ⟨pv, hP, hpr⟩ := h.pBox
  obtain ⟨qv, hQ, hqr⟩ := h.qBox
  exact ⟨by simpa using h.sz, h.gm.set ok (by show k.bG < k.aN; omega) _, h.gBox.other (by show k.bG ≠ k.aN; omega) _, h.oArr.other (by show k.aO ≠ k.aN; omega) _, h.oBox.other (by show k.bO ≠ k.aN; omega) _, h.lArr.other (by show k.aL ≠ k.aN; omega) _, h.lBox.other (by show k.bL ≠ k.aN; omega) _,
    by have := h.nArr.set i (.bool x); rwa [bools_set] at this, h.nBox.other (by show k.bN ≠ k.aN; omega) _, ⟨pv, hP.other (by show k.bP ≠ k.aN; omega) _, ownsRow_setCell_below hpr (by show k.aN < k.base; omega) _⟩, ⟨qv, hQ.other (by show k.bQ ≠ k.aN; omega) _, ownsRow_setCell_below hqr (by show k.aN < k.base; omega) _⟩, h.rBox.other (by show k.bR ≠ k.aN; omega) _⟩

/-- the path's row and its box anew: the world has grown by a row, then the box is set -/
theorem Mem.setP (h : Mem g k s w) (ok : k.Ok) {w' : World} {pv pv' : Value} {p' : List (Nat × Nat)} (hP : Blk w k.bP 62 #[pv]) (hpr : w.ownsRow k.base 66 2 pv s.path.length (frames s.path)) (hg : w.grownBy w' pv.ownBlock)
    (hown : w'.ownsRow k.base 66 2 pv' p'.length (frames p')) : Mem g k { s with path := p' } (w'.setCell ⟨k.bP, 0, none⟩ pv') := by
  obtain ⟨o1, o2, o3, o4, o5, o6, o7, o8, o9, o10, o11, o12⟩ := id ok
  obtain ⟨qv, hQ, hqr⟩ := h.qBox
  have hrow : ∀ b, b < k.base → some b ≠ pv.ownBlock := fun b hb e => by have := (hpr.lt b e.symm).1; omega
  have hqk : w'.ownsRow k.base 21 1 qv s.opn.length (nodes s.opn) := by
    refine hqr.kept hg ?_
    cases hq : qv.ownBlock with
    | none => exact Or.inl rfl
    | some b =>
      right
      intro e
      obtain ⟨_, hq2⟩ := hqr
      obtain ⟨_, hp2⟩ := hpr
      rcases hq2 with ⟨rfl, _⟩ | ⟨gq, _, _, rfl, _, hq3, _⟩
      · simp [Value.ownBlock] at hq
      · rcases hp2 with ⟨rfl, _⟩ | ⟨gp, _, _, rfl, _, hp3, _⟩
        · simp [Value.ownBlock] at e
        · simp only [Value.ownBlock, Option.some.injEq] at hq e
          subst hq
          subst e
          rw [hq3] at hp3
          simp at hp3
  have hgs := h.gBox.lt
  have hgm' : GMem g k.m k.bS k.bX w' := h.gm.other (hg.block _ (by omega) (hrow _ (by omega))) (hg.block _ (by omega) (hrow _ (by omega)))
  refine ⟨?_, hgm'.set ok (by show k.bG < k.bP; omega) _, (h.gBox.grown hg (hrow _ (by omega))).other (by show k.bG ≠ k.bP; omega) _, (h.oArr.grown hg (hrow _ (by omega))).other (by show k.aO ≠ k.bP; omega) _, (h.oBox.grown hg (hrow _ (by omega))).other (by show k.bO ≠ k.bP; omega) _, (h.lArr.grown hg (hrow _ (by omega))).other (by show k.aL ≠ k.bP; omega) _, (h.lBox.grown hg (hrow _ (by omega))).other (by show k.bL ≠ k.bP; omega) _,
    (h.nArr.grown hg (hrow _ (by omega))).other (by show k.aN ≠ k.bP; omega) _, (h.nBox.grown hg (hrow _ (by omega))).other (by show k.bN ≠ k.bP; omega) _, ⟨pv', (hP.grown hg (hrow _ (by omega))).set 0 _, ownsRow_setCell_below hown (by show k.bP < k.base; omega) _⟩, ⟨qv, (hQ.grown hg (hrow _ (by omega))).other (by show k.bQ ≠ k.bP; omega) _, ownsRow_setCell_below hqk (by show k.bP < k.base; omega) _⟩, (h.rBox.grown hg (hrow _ (by omega))).other (by show k.bR ≠ k.bP; omega) _⟩
  have := h.sz
  have := hg.size
  simp
  omega

/-- .. and of what is open -/
theorem Mem.setQ (h : Mem g k s w) (ok : k.Ok) {w' : World} {qv qv' : Value} {q' : List Nat} (hQ : Blk w k.bQ 23 #[qv]) (hqr : w.ownsRow k.base 21 1 qv s.opn.length (nodes s.opn)) (hg : w.grownBy w' qv.ownBlock)
    (hown : w'.ownsRow k.base 21 1 qv' q'.length (nodes q')) : Mem g k { s with opn := q' } (w'.setCell ⟨k.bQ, 0, none⟩ qv') := by
  obtain ⟨o1, o2, o3, o4, o5, o6, o7, o8, o9, o10, o11, o12⟩ := id ok
  obtain ⟨pv, hP, hpr⟩ := h.pBox
  have hrow : ∀ b, b < k.base → some b ≠ qv.ownBlock := fun b hb e => by have := (hqr.lt b e.symm).1; omega
  have hpk : w'.ownsRow k.base 66 2 pv s.path.length (frames s.path) := by
    refine hpr.kept hg ?_
    cases hp : pv.ownBlock with
    | none => exact Or.inl rfl
    | some b =>
      right
      intro e
      obtain ⟨_, hq2⟩ := hqr
      obtain ⟨_, hp2⟩ := hpr
      rcases hp2 with ⟨rfl, _⟩ | ⟨gp, _, _, rfl, _, hp3, _⟩
      · simp [Value.ownBlock] at hp
      · rcases hq2 with ⟨rfl, _⟩ | ⟨gq, _, _, rfl, _, hq3, _⟩
        · simp [Value.ownBlock] at e
        · simp only [Value.ownBlock, Option.some.injEq] at hp e
          subst hp
          subst e
          rw [hq3] at hp3
          simp at hp3
  have hgs := h.gBox.lt
  have hgm' : GMem g k.m k.bS k.bX w' := h.gm.other (hg.block _ (by omega) (hrow _ (by omega))) (hg.block _ (by omega) (hrow _ (by omega)))
  refine ⟨?_, hgm'.set ok (by show k.bG < k.bQ; omega) _, (h.gBox.grown hg (hrow _ (by omega))).other (by show k.bG ≠ k.bQ; omega) _, (h.oArr.grown hg (hrow _ (by omega))).other (by show k.aO ≠ k.bQ; omega) _, (h.oBox.grown hg (hrow _ (by omega))).other (by show k.bO ≠ k.bQ; omega) _, (h.lArr.grown hg (hrow _ (by omega))).other (by show k.aL ≠ k.bQ; omega) _, (h.lBox.grown hg (hrow _ (by omega))).other (by show k.bL ≠ k.bQ; omega) _,
    (h.nArr.grown hg (hrow _ (by omega))).other (by show k.aN ≠ k.bQ; omega) _, (h.nBox.grown hg (hrow _ (by omega))).other (by show k.bN ≠ k.bQ; omega) _, ⟨pv, (hP.grown hg (hrow _ (by omega))).other (by show k.bP ≠ k.bQ; omega) _, ownsRow_setCell_below hpk (by show k.bQ < k.base; omega) _⟩, ⟨qv', (hQ.grown hg (hrow _ (by omega))).set 0 _, ownsRow_setCell_below hown (by show k.bQ < k.base; omega) _⟩, (h.rBox.grown hg (hrow _ (by omega))).other (by show k.bR ≠ k.bQ; omega) _⟩
  have := h.sz
  have := hg.size
  simp
  omega

end
end Go.Proofs.Ybulkcnjc
