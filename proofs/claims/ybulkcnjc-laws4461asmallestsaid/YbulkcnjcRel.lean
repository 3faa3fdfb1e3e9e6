/-
  components: the loop's relation, and what each step does to it.
-/
import Derived.Test.YbulkcnjcVisit
namespace Go.Proofs.Ybulkcnjc
open Go.RowKit
set_option linter.unusedVariables false

def zeros (n : Nat) (f : Nat → Nat) : Nat := ((List.range n).map (fun v => if f v = 0 then 1 else 0)).sum

structure CntOk (g : Tj.G) (s : Tj.S) : Prop where
  sum : s.cnt + zeros g.n s.ord = g.n
  op : s.opn.length ≤ s.cnt
  pa : s.path.length ≤ s.cnt

theorem zeros_init (n : Nat) : zeros n (fun _ => 0) = n := by
  unfold zeros
  induction n with
  | zero => rfl
  | succ n ih =>
    rw [List.range_succ, List.map_append, List.sum_append, ih]
    simp

theorem zeros_upd (n : Nat) (f : Nat → Nat) (v x : Nat) (hv : v < n) (h0 : f v = 0) (hx : x ≠ 0) : zeros n (Tj.upd f v x) + 1 = zeros n f := by
  have h := Tj.sum_range_upd (fun v => if f v = 0 then 1 else 0) (fun u => if Tj.upd f v x u = 0 then 1 else 0) v n hv (fun u hu => by rw [Tj.upd_other _ _ hu])
  simp only [Tj.upd_same, h0] at h
  rw [if_pos trivial, if_neg hx] at h
  unfold zeros
  omega

theorem CntOk.init (g : Tj.G) : CntOk g Tj.S.init := ⟨by rw [show Tj.S.init.ord = fun _ => 0 from rfl, zeros_init]; simp [Tj.S.init], by simp [Tj.S.init], by simp [Tj.S.init]⟩

theorem CntOk.visit {g : Tj.G} {s : Tj.S} (h : CntOk g s) {v : Nat} (hv : v < g.n) (h0 : s.ord v = 0) : CntOk g (s.visit g v) := by
  have h1 := zeros_upd g.n s.ord v (s.cnt + 1) hv h0 (by omega)
  obtain ⟨a, b, c⟩ := h
  refine ⟨?_, ?_, ?_⟩
  · show s.cnt + 1 + zeros g.n (Tj.upd s.ord v (s.cnt + 1)) = g.n
    omega
  · show (s.opn ++ [v]).length ≤ s.cnt + 1
    simp; omega
  · show (s.path ++ [(v, g.st v)]).length ≤ s.cnt + 1
    simp; omega

theorem CntOk.lt {g : Tj.G} {s : Tj.S} (h : CntOk g s) : s.cnt ≤ g.n := by have := h.sum; omega

/-- what holds between two steps -/
structure Rel (g : Tj.G) (k : Bk) (bs bt : Nat) (t : Int) (w0 : World) (s : Tj.S) (w : World) : Prop where
  inv : Tj.Inv g s
  cnt : CntOk g s
  mem : Mem g k s w
  grown : w0.grownBy w (some bs)
  sm : Blk w bs 21 #[.int .i32 (Tj.smOf t s.comps)]
  tx : Blk w bt 21 #[.int .i32 t]

/-- what the whole call holds fast -/
structure Fix (g : Tj.G) (k : Bk) (bs bt : Nat) (t : Int) (w0 : World) : Prop where
  ok : k.Ok
  gok : g.Ok
  mono : ∀ v, v < g.n → g.st v ≤ g.st (v + 1)
  top : ∀ v, v ≤ g.n → g.st v ≤ k.m
  n48 : g.n ≤ 48
  m1024 : k.m ≤ 1024
  bsG : bs < k.bG
  btG : bt < k.bG
  ne : bs ≠ bt
  neS : bs ≠ k.bS
  neX : bs ≠ k.bX
  low : w0.heap.size ≤ k.bG

section
variable {g : Tj.G} {k : Bk} {bs bt : Nat} {t : Int} {w0 w w' : World} {s s' : Tj.S}

theorem grown_below (h : w0.grownBy w (some bs)) (hb : Below k.bG w w') (hl : w0.heap.size ≤ k.bG) : w0.grownBy w' (some bs) :=
  ⟨hb.os.trans h.os, hb.tape.trans h.tape, hb.output.trans h.output, Nat.le_trans h.size hb.size, fun j hj hne => (hb.block j (by omega)).trans (h.block j hj hne)⟩

/-- a step that writes nothing below the call's own blocks -/
theorem Rel.step (h : Rel g k bs bt t w0 s w) (F : Fix g k bs bt t w0) (hb : Below k.bG w w') (hi : Tj.Inv g s') (hc : CntOk g s') (hm : Mem g k s' w') (he : s'.comps = s.comps) : Rel g k bs bt t w0 s' w' :=
  ⟨hi, hc, hm, grown_below h.grown hb F.low, by rw [he]; exact h.sm.below hb F.bsG, h.tx.below hb F.btG⟩

theorem Rel.same (h : Rel g k bs bt t w0 s w) (F : Fix g k bs bt t w0) (hb : Below w.heap.size w w') : Rel g k bs bt t w0 s w' :=
  h.step F (hb.mono (Nat.le_of_lt h.mem.gBox.lt)) h.inv h.cnt (h.mem.below F.ok hb) rfl

end

/-- the world in which the outer loop begins -/
def startW (w1 : World) (n : Nat) : World :=
  ((((((((w1.alloc (.cells (madeCells #[.int .i32 0] n) 21)).alloc (.cells #[.slice (some ⟨w1.heap.size, 0, none⟩) n n] 23)).alloc (.cells (madeCells #[.int .i32 0] n) 21)).alloc (.cells #[.slice (some ⟨w1.heap.size + 1 + 1, 0, none⟩) n n] 23)).alloc
    (.cells (madeCells #[.bool false] n) 4)).alloc (.cells #[.slice (some ⟨w1.heap.size + 1 + 1 + 1 + 1, 0, none⟩) n n] 30)).alloc (.cells #[.slice none 0 0] 62)).alloc (.cells #[.slice none 0 0] 23)).alloc (.cells #[.int .i32 0] 21)

def startK (m bS bX : Nat) (w w1 : World) : Bk :=
  { m := m, bS := bS, bX := bX, bG := w.heap.size, aO := w1.heap.size, bO := w1.heap.size + 1, aL := w1.heap.size + 1 + 1, bL := w1.heap.size + 1 + 1 + 1, aN := w1.heap.size + 1 + 1 + 1 + 1, bN := w1.heap.size + 1 + 1 + 1 + 1 + 1,
    bP := w1.heap.size + 1 + 1 + 1 + 1 + 1 + 1, bQ := w1.heap.size + 1 + 1 + 1 + 1 + 1 + 1 + 1, bR := w1.heap.size + 1 + 1 + 1 + 1 + 1 + 1 + 1 + 1, base := w1.heap.size + 1 + 1 + 1 + 1 + 1 + 1 + 1 + 1 + 1 }

theorem startK_ok (m bS bX : Nat) (w w1 : World) (hS : bS < w.heap.size) (hX : bX < w.heap.size) (h1 : w.heap.size < w1.heap.size) : (startK m bS bX w w1).Ok := by
  unfold startK
  exact ⟨hS, hX, h1, by simp, by simp, by simp, by simp, by simp, by simp, by simp, by simp, by simp⟩

theorem start_mem (g : Tj.G) (m bS bX : Nat) (w w1 : World) (hg : GMem g m bS bX w) (hS : bS < w.heap.size) (hX : bX < w.heap.size)
    (hb : Below (w.alloc (.cells #[.iface 29 (gv g.n m bS bX)] 42)).heap.size (w.alloc (.cells #[.iface 29 (gv g.n m bS bX)] 42)) w1) :
    Mem g (startK m bS bX w w1) Tj.S.init (startW w1 g.n) ∧ Below w1.heap.size w1 (startW w1 g.n) := by
  have hz : w.heap.size < w1.heap.size := by have := hb.size; simp at this; omega
  have hB : Below w1.heap.size w1 (startW w1 g.n) := by
    unfold startW
    exact (((((((((Below.refl _ w1).alloc (by simp) _).alloc (by simp) _).alloc (by simp; omega) _).alloc (by simp; omega) _).alloc (by simp; omega) _).alloc (by simp; omega) _).alloc (by simp; omega) _).alloc (by simp; omega) _).alloc (by simp; omega) _
  have hG0 := (Blk.new w #[.iface 29 (gv g.n m bS bX)] 42).below hb (by simp)
  have eb : ∀ j, j < w.heap.size → (startW w1 g.n).heap[j]? = w.heap[j]? := fun j hj => by
    rw [hB.block j (by omega), hb.block j (by simp; omega), Below.heap_alloc w _ j hj]
  refine ⟨⟨?_, hg.other (eb bS hS) (eb bX hX), hG0.below hB hz, ?_, ?_, ?_, ?_, ?_, ?_, ?_, ?_, ?_⟩, hB⟩
  · simp [startK, startW]
  all_goals unfold startW startK
  · show Blk _ w1.heap.size 21 (ints g.n fun _ => 0)
    rw [← made_ints]
    exact ((((((((Blk.new w1 _ _).alloc _).alloc _).alloc _).alloc _).alloc _).alloc _).alloc _).alloc _
  · have h := Blk.new (w1.alloc (.cells (madeCells #[.int .i32 0] g.n) 21)) #[.slice (some ⟨w1.heap.size, 0, none⟩) g.n g.n] 23
    rw [World.size_alloc] at h
    exact ((((((h.alloc _).alloc _).alloc _).alloc _).alloc _).alloc _).alloc _
  · show Blk _ (w1.heap.size + 1 + 1) 21 (ints g.n fun _ => 0)
    rw [← made_ints]
    have h := Blk.new ((w1.alloc (.cells (madeCells #[.int .i32 0] g.n) 21)).alloc (.cells #[.slice (some ⟨w1.heap.size, 0, none⟩) g.n g.n] 23)) (madeCells #[.int .i32 0] g.n) 21
    simp only [World.size_alloc] at h
    exact (((((h.alloc _).alloc _).alloc _).alloc _).alloc _).alloc _
  · have h := Blk.new (((w1.alloc (.cells (madeCells #[.int .i32 0] g.n) 21)).alloc (.cells #[.slice (some ⟨w1.heap.size, 0, none⟩) g.n g.n] 23)).alloc (.cells (madeCells #[.int .i32 0] g.n) 21)) #[.slice (some ⟨w1.heap.size + 1 + 1, 0, none⟩) g.n g.n] 23
    simp only [World.size_alloc] at h
    exact ((((h.alloc _).alloc _).alloc _).alloc _).alloc _
  · show Blk _ (w1.heap.size + 1 + 1 + 1 + 1) 4 (bools g.n fun _ => false)
    rw [← made_bools]
    have h := Blk.new ((((w1.alloc (.cells (madeCells #[.int .i32 0] g.n) 21)).alloc (.cells #[.slice (some ⟨w1.heap.size, 0, none⟩) g.n g.n] 23)).alloc (.cells (madeCells #[.int .i32 0] g.n) 21)).alloc (.cells #[.slice (some ⟨w1.heap.size + 1 + 1, 0, none⟩) g.n g.n] 23)) (madeCells #[.bool false] g.n) 4
    simp only [World.size_alloc] at h
    exact (((h.alloc _).alloc _).alloc _).alloc _
  · have h := Blk.new (((((w1.alloc (.cells (madeCells #[.int .i32 0] g.n) 21)).alloc (.cells #[.slice (some ⟨w1.heap.size, 0, none⟩) g.n g.n] 23)).alloc (.cells (madeCells #[.int .i32 0] g.n) 21)).alloc (.cells #[.slice (some ⟨w1.heap.size + 1 + 1, 0, none⟩) g.n g.n] 23)).alloc (.cells (madeCells #[.bool false] g.n) 4)) #[.slice (some ⟨w1.heap.size + 1 + 1 + 1 + 1, 0, none⟩) g.n g.n] 30
    simp only [World.size_alloc] at h
    exact ((h.alloc _).alloc _).alloc _
  · have h := Blk.new ((((((w1.alloc (.cells (madeCells #[.int .i32 0] g.n) 21)).alloc (.cells #[.slice (some ⟨w1.heap.size, 0, none⟩) g.n g.n] 23)).alloc (.cells (madeCells #[.int .i32 0] g.n) 21)).alloc (.cells #[.slice (some ⟨w1.heap.size + 1 + 1, 0, none⟩) g.n g.n] 23)).alloc (.cells (madeCells #[.bool false] g.n) 4)).alloc (.cells #[.slice (some ⟨w1.heap.size + 1 + 1 + 1 + 1, 0, none⟩) g.n g.n] 30)) #[.slice none 0 0] 62
    simp only [World.size_alloc] at h
    exact ⟨_, (h.alloc _).alloc _, World.ownsRow_nil _ _ _ _⟩
  · have h := Blk.new (((((((w1.alloc (.cells (madeCells #[.int .i32 0] g.n) 21)).alloc (.cells #[.slice (some ⟨w1.heap.size, 0, none⟩) g.n g.n] 23)).alloc (.cells (madeCells #[.int .i32 0] g.n) 21)).alloc (.cells #[.slice (some ⟨w1.heap.size + 1 + 1, 0, none⟩) g.n g.n] 23)).alloc (.cells (madeCells #[.bool false] g.n) 4)).alloc (.cells #[.slice (some ⟨w1.heap.size + 1 + 1 + 1 + 1, 0, none⟩) g.n g.n] 30)).alloc (.cells #[.slice none 0 0] 62)) #[.slice none 0 0] 23
    simp only [World.size_alloc] at h
    exact ⟨_, h.alloc _, World.ownsRow_nil _ _ _ _⟩
  · have h := Blk.new ((((((((w1.alloc (.cells (madeCells #[.int .i32 0] g.n) 21)).alloc (.cells #[.slice (some ⟨w1.heap.size, 0, none⟩) g.n g.n] 23)).alloc (.cells (madeCells #[.int .i32 0] g.n) 21)).alloc (.cells #[.slice (some ⟨w1.heap.size + 1 + 1, 0, none⟩) g.n g.n] 23)).alloc (.cells (madeCells #[.bool false] g.n) 4)).alloc (.cells #[.slice (some ⟨w1.heap.size + 1 + 1 + 1 + 1, 0, none⟩) g.n g.n] 30)).alloc (.cells #[.slice none 0 0] 62)).alloc (.cells #[.slice none 0 0] 23)) #[.int .i32 0] 21
    simp only [World.size_alloc] at h
    exact h


theorem frames_set (fs : List (Nat × Nat)) (v c d : Nat) : (frames (fs ++ [(v, c)])).set (fs.length * 2 + 1) (.int .i64 (d : Int)) = frames (fs ++ [(v, d)]) := by
  have h := frames_length fs
  rw [frames_append, frames_append, List.set_append_right _ _ (by omega), h, show fs.length * 2 + 1 - fs.length * 2 = 1 by omega]
  simp [frames]

theorem row_apart {w : World} {base : Nat} {pv qv : Value} {np nq : Nat} {xs ys : List Value} (hp : w.ownsRow base 66 2 pv np xs) (hq : w.ownsRow base 21 1 qv nq ys) {b : Nat} (hb : pv.ownBlock = some b) : qv.ownBlock ≠ some b := by
  intro e
  obtain ⟨_, hq2⟩ := hq
  obtain ⟨_, hp2⟩ := hp
  rcases hp2 with ⟨rfl, _⟩ | ⟨gp, _, _, rfl, _, hp3, _⟩
  · simp [Value.ownBlock] at hb
  · rcases hq2 with ⟨rfl, _⟩ | ⟨gq, _, _, rfl, _, hq3, _⟩
    · simp [Value.ownBlock] at e
    · simp only [Value.ownBlock, Option.some.injEq] at hb e
      subst hb
      subst e
      rw [hq3] at hp3
      simp at hp3

/-- the top frame as it lies -/
structure TopAt (k : Bk) (w : World) (i v c pb cap : Nat) : Prop where
  box : Blk w k.bP 62 #[.slice (some ⟨pb, 0, none⟩) (i + 1) cap]
  base : k.base ≤ pb
  lt : pb < w.heap.size
  le : i + 1 ≤ cap
  cv : w.cell? ⟨pb, i * 2, none⟩ = some (.int .i32 (v : Int))
  cc : w.cell? ⟨pb, i * 2 + 1, none⟩ = some (.int .i64 (c : Int))
  free : w.frozen? ⟨pb, i * 2 + 1, none⟩ = false

section
variable {g : Tj.G} {k : Bk} {s : Tj.S} {w : World}

theorem Mem.topAt (h : Mem g k s w) {fs : List (Nat × Nat)} {v c : Nat} (hp : s.path = fs ++ [(v, c)]) : ∃ pb cap, TopAt k w fs.length v c pb cap := by
  obtain ⟨pv, hP, hpr⟩ := h.pBox
  have hlen : s.path.length = fs.length + 1 := by rw [hp]; simp
  rw [hp, ← hp, hlen] at hpr
  obtain ⟨pb, cap, rfl, hb, hlt⟩ := hpr.form (by omega)
  have hc := hpr.cells (g := pb) rfl
  have ht := frames_top fs v c
  rw [← hp] at ht
  have e1 := hc _ _ ht.1
  have e2 := hc _ _ ht.2
  have add : ∀ j, (⟨pb, 0, none⟩ : Addr).add j = ⟨pb, j, none⟩ := by intro j; unfold Addr.add; split <;> simp_all
  rw [add] at e1 e2
  rcases hpr.2 with ⟨h1, _⟩ | ⟨g', cap', cur, h1, _, h3, h4, _⟩
  · cases h1
  · simp only [Value.slice.injEq, Option.some.injEq, Addr.mk.injEq, and_true, true_and] at h1
    obtain ⟨rfl, rfl⟩ := h1
    exact ⟨pb, cap, hP, hb, hlt, h4, e1, e2, by simp [World.frozen?, h3]⟩

/-- the top frame goes on -/
theorem Mem.cursor (h : Mem g k s w) (ok : k.Ok) {fs : List (Nat × Nat)} {v c pb cap : Nat} (hp : s.path = fs ++ [(v, c)]) (hT : TopAt k w fs.length v c pb cap) (d : Nat) :
    Mem g k { s with path := fs ++ [(v, d)] } (w.setCell ⟨pb, fs.length * 2 + 1, none⟩ (.int .i64 (d : Int))) := by
  obtain ⟨pv, hP, hpr⟩ := h.pBox
  obtain ⟨qv, hQ, hqr⟩ := h.qBox
  obtain ⟨o1, o2, o3, o4, o5, o6, o7, o8, o9, o10, o11, o12⟩ := id ok
  have hpv : pv = .slice (some ⟨pb, 0, none⟩) (fs.length + 1) cap := by
    have h1 := hP.one
    have h2 := hT.box.one
    rw [h1] at h2
    simpa using h2
  have hB := hT.base
  have hapart := row_apart hpr hqr (b := pb) (by rw [hpv]; rfl)
  have hrow : ({ s with path := fs ++ [(v, d)] } : Tj.S).path.length = s.path.length := by rw [hp]; simp
  have hown : (w.setCell ⟨pb, fs.length * 2 + 1, none⟩ (.int .i64 (d : Int))).ownsRow k.base 66 2 pv (fs ++ [(v, d)]).length (frames (fs ++ [(v, d)])) := by
    refine ⟨by rw [frames_length], Or.inr ?_⟩
    rcases hpr.2 with ⟨h1, _⟩ | ⟨g', cap', cur, h1, h2, h3, h4, h5, h6, h7⟩
    · rw [hpv] at h1; cases h1
    · have h1' := h1
      rw [hpv] at h1'
      simp only [Value.slice.injEq, Option.some.injEq, Addr.mk.injEq, and_true] at h1'
      obtain ⟨rfl, _, rfl⟩ := h1'
      refine ⟨pb, cap, cur.setIfInBounds (fs.length * 2 + 1) (.int .i64 (d : Int)), by rw [hpv]; simp, hB, (Blk.set h3 _ _), by simpa using hT.le, h5, by simpa using h6, ?_⟩
      have hl : (fs ++ [(v, d)]).length = s.path.length := by rw [hp]; simp
      rw [hl, Array.toList_setIfInBounds, List.take_set, h7, hp, frames_set]
  exact ⟨by simpa using h.sz, h.gm.set ok (by show k.bG < pb; omega) _, h.gBox.other (by show k.bG ≠ pb; omega) _, h.oArr.other (by show k.aO ≠ pb; omega) _, h.oBox.other (by show k.bO ≠ pb; omega) _, h.lArr.other (by show k.aL ≠ pb; omega) _, h.lBox.other (by show k.bL ≠ pb; omega) _,
    h.nArr.other (by show k.aN ≠ pb; omega) _, h.nBox.other (by show k.bN ≠ pb; omega) _, ⟨pv, hP.other (by show k.bP ≠ pb; omega) _, hown⟩, ⟨qv, hQ.other (by show k.bQ ≠ pb; omega) _, ownsRow_setCell_other hqr (by exact hapart) _⟩, h.rBox.other (by show k.bR ≠ pb; omega) _⟩

end

theorem TopAt.below {k : Bk} {w w' : World} {i v c pb cap : Nat} (h : TopAt k w i v c pb cap) (hb : Below w.heap.size w w') : TopAt k w' i v c pb cap :=
  ⟨h.box.below hb h.box.lt, h.base, by have := hb.size; have := h.lt; omega, h.le, (hb.cell h.lt).trans h.cv, (hb.cell h.lt).trans h.cc, (hb.frozen h.lt).trans h.free⟩

section
variable {g : Tj.G} {k : Bk} {bs bt : Nat} {t : Int} {w0 w w' : World} {s : Tj.S}

theorem CntOk.cursor {s : Tj.S} (h : CntOk g s) {fs : List (Nat × Nat)} {v c d : Nat} (hp : s.path = fs ++ [(v, c)]) : CntOk g { s with path := fs ++ [(v, d)] } :=
  ⟨h.sum, h.op, by have := h.pa; rw [hp] at this; simpa using this⟩

/-- past an arc whose end has been reached and is not open (or needs no lower low) -/
theorem Rel.skip (h : Rel g k bs bt t w0 s w) (F : Fix g k bs bt t w0) {fs : List (Nat × Nat)} {v c pb cap : Nat} (hp : s.path = fs ++ [(v, c)]) (hT : TopAt k w fs.length v c pb cap) (hc : c < g.st (v + 1))
    (h1 : s.ord (g.sc c) ≠ 0) (h2 : g.sc c ∈ s.opn → s.low v ≤ s.ord (g.sc c)) :
    Rel g k bs bt t w0 { s with path := fs ++ [(v, c + 1)] } (w.setCell ⟨pb, fs.length * 2 + 1, none⟩ (.int .i64 ((c + 1 : Nat) : Int))) := by
  refine h.step F ((Below.refl _ _).setCell (by show k.bG ≤ pb; have := hT.base; have := F.ok.gO; have := F.ok.oO; have := F.ok.oL; have := F.ok.lL; have := F.ok.lN; have := F.ok.nN; have := F.ok.nP; have := F.ok.pQ; have := F.ok.qR; have := F.ok.rB; omega) _) ?_ (h.cnt.cursor hp) (h.mem.cursor F.ok hp hT (c + 1)) rfl
  exact Tj.inv_cursor h.inv (gs := []) hp hc h1 h2

/-- an arc back to an open node: the low goes down first -/
theorem Rel.back (h : Rel g k bs bt t w0 s w) (F : Fix g k bs bt t w0) {fs : List (Nat × Nat)} {v c pb cap : Nat} (hp : s.path = fs ++ [(v, c)]) (hT : TopAt k w fs.length v c pb cap) (hc1 : g.st v ≤ c) (hc : c < g.st (v + 1))
    (h1 : s.ord (g.sc c) ≠ 0) (h2 : g.sc c ∈ s.opn) :
    Rel g k bs bt t w0 { s with path := fs ++ [(v, c + 1)], low := Tj.upd s.low v (min (s.low v) (s.ord (g.sc c))) } ((w.setCell ⟨pb, fs.length * 2 + 1, none⟩ (.int .i64 ((c + 1 : Nat) : Int))).setCell ⟨k.aL, v, none⟩ (.int .i32 ((min (s.low v) (s.ord (g.sc c)) : Nat) : Int))) := by
  have htop := h.inv.top hp
  have hG : k.bG ≤ pb := by have := hT.base; have := F.ok.gO; have := F.ok.oO; have := F.ok.oL; have := F.ok.lL; have := F.ok.lN; have := F.ok.nN; have := F.ok.nP; have := F.ok.pQ; have := F.ok.qR; have := F.ok.rB; omega
  have hL : k.bG ≤ k.aL := by have := F.ok.gO; have := F.ok.oO; have := F.ok.oL; omega
  have hi : Tj.Inv g { s with low := Tj.upd s.low v (min (s.low v) (s.ord (g.sc c))) } := by
    refine Tj.inv_low h.inv htop.2.1 (Nat.min_le_left _ _) ?_
    rcases Nat.le_total (s.low v) (s.ord (g.sc c)) with hle | hle
    · rw [Nat.min_eq_left hle]
      exact h.inv.lowAt v htop.1
    · rw [Nat.min_eq_right hle]
      exact ⟨g.sc c, h2, rfl, Tj.Reach.edge ⟨c, hc1, hc, rfl⟩⟩
  refine h.step F (((Below.refl _ _).setCell (p := ⟨pb, fs.length * 2 + 1, none⟩) hG _).setCell (p := ⟨k.aL, v, none⟩) hL _) ?_ ⟨h.cnt.sum, h.cnt.op, (h.cnt.cursor (d := c + 1) hp).pa⟩ ((h.mem.cursor F.ok hp hT (c + 1)).setL F.ok v _) rfl
  refine Tj.inv_cursor hi (gs := []) hp hc h1 (fun _ => ?_)
  show Tj.upd s.low v (min (s.low v) (s.ord (g.sc c))) v ≤ _
  rw [Tj.upd_same]
  exact Nat.min_le_right _ _

/-- an arc to a node that was not reached yet: behind 'visit' -/
theorem Rel.tree (h : Rel g k bs bt t w0 s w) (F : Fix g k bs bt t w0) {fs : List (Nat × Nat)} {v c pb cap : Nat} (hp : s.path = fs ++ [(v, c)]) (hT : TopAt k w fs.length v c pb cap) (hc1 : g.st v ≤ c) (hc : c < g.st (v + 1))
    (h0 : s.ord (g.sc c) = 0) (hb : Below k.bG (w.setCell ⟨pb, fs.length * 2 + 1, none⟩ (.int .i64 ((c + 1 : Nat) : Int))) w') (hM : Mem g k (({ s with path := fs ++ [(v, c + 1)] } : Tj.S).visit g (g.sc c)) w') :
    Rel g k bs bt t w0 (({ s with path := fs ++ [(v, c + 1)] } : Tj.S).visit g (g.sc c)) w' := by
  have htop := h.inv.top hp
  have hG : k.bG ≤ pb := by have := hT.base; have := F.ok.gO; have := F.ok.oO; have := F.ok.oL; have := F.ok.lL; have := F.ok.lN; have := F.ok.nN; have := F.ok.nP; have := F.ok.pQ; have := F.ok.qR; have := F.ok.rB; omega
  have hvn := h.inv.lt v htop.1
  have hx : g.sc c < g.n := F.gok v c hvn hc1 hc
  refine h.step F (((Below.refl _ _).setCell (p := ⟨pb, fs.length * 2 + 1, none⟩) hG _).trans hb) ?_ ((h.cnt.cursor (d := c + 1) hp).visit hx h0) hM rfl
  have hi := Tj.inv_visit h.inv hx (F.mono _ hx) h0 (fun p hpp => (htop.2.2.2.1 p hpp).trans (Tj.Reach.edge ⟨c, hc1, hc, rfl⟩))
  have hne : g.sc c ≠ v := fun e => by
    have := h.inv.pos v htop.1
    rw [e] at h0
    omega
  have hi2 := Tj.inv_cursor hi (fs := fs) (gs := [(g.sc c, g.st (g.sc c))]) (v := v) (c := c) (by simp [Tj.S.visit, hp]) hc
    (by show Tj.upd s.ord (g.sc c) (s.cnt + 1) (g.sc c) ≠ 0; rw [Tj.upd_same]; omega)
    (fun _ => by
      show Tj.upd s.low (g.sc c) (s.cnt + 1) v ≤ Tj.upd s.ord (g.sc c) (s.cnt + 1) (g.sc c)
      rw [Tj.upd_same, Tj.upd_other _ _ (fun e => hne e.symm)]
      have := h.inv.lowLe v htop.1
      have := h.inv.le v
      omega)
  have e : ({ (s.visit g (g.sc c)) with path := fs ++ (v, c + 1) :: [(g.sc c, g.st (g.sc c))] } : Tj.S) = ({ s with path := fs ++ [(v, c + 1)] } : Tj.S).visit g (g.sc c) := by
    simp [Tj.S.visit]
  rw [← e]
  exact hi2

end
end Go.Proofs.Ybulkcnjc
