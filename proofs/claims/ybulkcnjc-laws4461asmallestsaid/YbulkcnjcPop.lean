/-
  components: the top frame is done.
-/
import Derived.Test.YbulkcnjcRel
namespace Go.Proofs.Ybulkcnjc
open Go.RowKit
set_option linter.unusedVariables false

theorem frames_take (fs gs : List (Nat × Nat)) : (frames (fs ++ gs)).take (fs.length * 2) = frames fs := by
  rw [frames_append, ← frames_length fs, List.take_left]
theorem nodes_take (a b : List Nat) : (nodes (a ++ b)).take (a.length * 1) = nodes a := by
  have : nodes (a ++ b) = nodes a ++ nodes b := by simp [nodes]
  rw [this, Nat.mul_one, ← nodes_length a, List.take_left]

section
variable {g : Tj.G} {k : Bk} {s : Tj.S} {w : World}

theorem Mem.pop (h : Mem g k s w) (ok : k.Ok) {fs : List (Nat × Nat)} {v c pb cap : Nat} (hp : s.path = fs ++ [(v, c)]) (hT : TopAt k w fs.length v c pb cap) :
    Mem g k { s with path := fs } (w.setCell ⟨k.bP, 0, none⟩ (.slice (some ⟨pb, 0, none⟩) fs.length cap)) := by
  obtain ⟨pv, hP, hpr⟩ := h.pBox
  have hpv : pv = .slice (some ⟨pb, 0, none⟩) (fs.length + 1) cap := by
    have h1 := hP.one
    have h2 := hT.box.one
    rw [h1] at h2
    simpa using h2
  subst hpv
  have hr := hpr
  have hlen : s.path.length = fs.length + 1 := by rw [hp]; simp
  rw [hlen] at hr
  have h2 := ownsRow_shorter hr (k := fs.length) (by omega)
  rw [hp, frames_take] at h2
  exact h.setP ok hP hpr (grown_refl _ _) h2

theorem parent_at {g : Tj.G} {k : Bk} {s : Tj.S} {w : World} {fs fs' : List (Nat × Nat)} {p d pb cap : Nat} (h : Mem g k { s with path := fs } (w.setCell ⟨k.bP, 0, none⟩ (.slice (some ⟨pb, 0, none⟩) fs.length cap))) (e : fs = fs' ++ [(p, d)]) {x : Value} (hB : Blk w k.bP 62 #[x]) :
    (w.setCell ⟨k.bP, 0, none⟩ (.slice (some ⟨pb, 0, none⟩) fs.length cap)).cell? ⟨k.bP, 0, none⟩ = some (.slice (some ⟨pb, 0, none⟩) fs.length cap) ∧
    (w.setCell ⟨k.bP, 0, none⟩ (.slice (some ⟨pb, 0, none⟩) fs.length cap)).cell? ⟨pb, (fs.length - 1) * 2, none⟩ = some (.int .i32 (p : Int)) := by
  obtain ⟨pv, hP, hpr⟩ := h.pBox
  have h0 : (w.setCell ⟨k.bP, 0, none⟩ (.slice (some ⟨pb, 0, none⟩) fs.length cap)).cell? ⟨k.bP, 0, none⟩ = some (.slice (some ⟨pb, 0, none⟩) fs.length cap) := by
    rw [(hB.set 0 _).cell]
    rfl
  refine ⟨h0, ?_⟩
  have hpv : pv = .slice (some ⟨pb, 0, none⟩) fs.length cap := by
    have h1 := hP.one
    rw [h0] at h1
    simpa using h1.symm
  subst hpv
  have hlen : fs.length = fs'.length + 1 := by rw [e]; simp
  have hc := hpr.cells (g := pb) rfl (fs'.length * 2) (.int .i32 (p : Int)) (by show (frames fs)[fs'.length * 2]? = _; rw [e]; exact (frames_top fs' p d).1)
  have add : ∀ j, (⟨pb, 0, none⟩ : Addr).add j = ⟨pb, j, none⟩ := by intro j; unfold Addr.add; split <;> simp_all
  rw [add] at hc
  rw [hlen, Nat.add_sub_cancel]
  rw [hlen] at hc
  exact hc

/-- the open nodes as they lie -/
structure OpenAt (k : Bk) (w : World) (l : List Nat) (qb cap : Nat) : Prop where
  box : Blk w k.bQ 23 #[.slice (some ⟨qb, 0, none⟩) l.length cap]
  base : k.base ≤ qb
  lt : qb < w.heap.size
  le : l.length ≤ cap
  cells : ∀ i, (hi : i < l.length) → w.cell? ⟨qb, i, none⟩ = some (.int .i32 (l[i] : Int))

theorem Mem.openAt (h : Mem g k s w) (hne : 0 < s.opn.length) : ∃ qb cap, OpenAt k w s.opn qb cap := by
  obtain ⟨qv, hQ, hqr⟩ := h.qBox
  obtain ⟨qb, cap, rfl, hb, hlt⟩ := hqr.form hne
  have hc := hqr.cells (g := qb) rfl
  have add : ∀ j, (⟨qb, 0, none⟩ : Addr).add j = ⟨qb, j, none⟩ := by intro j; unfold Addr.add; split <;> simp_all
  refine ⟨qb, cap, hQ, hb, hlt, ?_, fun i hi => ?_⟩
  · rcases hqr.2 with ⟨h1, _⟩ | ⟨g', cap', cur, h1, _, h3, h4, _⟩
    · cases h1
    · simp only [Value.slice.injEq, Option.some.injEq, Addr.mk.injEq, and_true, true_and] at h1
      obtain ⟨rfl, rfl⟩ := h1
      exact h4
  · have e := hc i (.int .i32 (s.opn[i] : Int)) (by simp [nodes, hi])
    rw [add] at e
    exact e

theorem Mem.cutOpen (h : Mem g k s w) (ok : k.Ok) {a b : List Nat} {qb cap : Nat} (ho : s.opn = a ++ b) (hO : OpenAt k w s.opn qb cap) :
    Mem g k { s with opn := a } (w.setCell ⟨k.bQ, 0, none⟩ (.slice (some ⟨qb, 0, none⟩) a.length cap)) := by
  obtain ⟨qv, hQ, hqr⟩ := h.qBox
  have hqv : qv = .slice (some ⟨qb, 0, none⟩) s.opn.length cap := by
    have h1 := hQ.one
    have h2 := hO.box.one
    rw [h1] at h2
    simpa using h2
  subst hqv
  have hlen : a.length ≤ s.opn.length := by rw [ho]; simp
  have h2 := ownsRow_shorter hqr (k := a.length) hlen
  rw [ho, nodes_take] at h2
  exact h.setQ ok hQ hqr (grown_refl _ _) h2

theorem OpenAt.same {k : Bk} {w w' : World} {l : List Nat} {qb cap : Nat} (h : OpenAt k w l qb cap) (ok : k.Ok) {row : Option Nat} (hg : w.grownBy w' row) (hr : ∀ j, row = some j → j < k.bQ) : OpenAt k w' l qb cap := by
  have hQ : k.bQ < k.base := by have := ok.qR; have := ok.rB; omega
  have hq : some qb ≠ row := fun e => by have := hr qb e.symm; have := h.base; omega
  exact ⟨h.box.grown hg (fun e => by have := hr _ e.symm; omega), h.base, by have := hg.size; have := h.lt; omega, h.le, fun i hi => (World.cell?_of_block (w := w) (a := ⟨qb, i, none⟩) (hg.block qb h.lt hq)).trans (h.cells i hi)⟩

theorem OpenAt.setN {k : Bk} {w : World} {l : List Nat} {qb cap : Nat} (h : OpenAt k w l qb cap) (ok : k.Ok) (i : Nat) (x : Value) : OpenAt k (w.setCell ⟨k.aN, i, none⟩ x) l qb cap := by
  have h1 : k.aN < k.bQ := by have := ok.nN; have := ok.nP; have := ok.pQ; omega
  have h2 : k.bQ < k.base := by have := ok.qR; have := ok.rB; omega
  have h3 := h.base
  exact ⟨h.box.other (by show k.bQ ≠ k.aN; omega) _, h.base, by simpa using h.lt, h.le, fun j hj => (World.cell?_of_block (w := w) (a := ⟨qb, j, none⟩) (Below.heap_setCell w _ _ qb (by show qb ≠ k.aN; omega))).trans (h.cells j hj)⟩

theorem OpenAt.drew {k : Bk} {w : World} {l : List Nat} {qb cap : Nat} (h : OpenAt k w l qb cap) : OpenAt k w.drew l qb cap := ⟨h.box, h.base, h.lt, h.le, h.cells⟩

theorem at_mid (a b : List Nat) (v : Nat) {l : List Nat} (e : l = a ++ v :: b) (hi : a.length < l.length) : l[a.length] = v := by subst e; simp
theorem at_later (a b : List Nat) (v j : Nat) {l : List Nat} (e : l = a ++ v :: b) (hn : l.Nodup) (hi : a.length + (j + 1) < l.length) : l[a.length + (j + 1)] ≠ v := by
  intro h
  have hi0 : a.length < l.length := by omega
  have h1 := at_mid a b v e hi0
  have := (List.getElem_inj hn).1 (h.trans h1.symm)
  omega
theorem at_tail (a b : List Nat) (v j : Nat) {l : List Nat} (e : l = a ++ v :: b) (hj : j < (v :: b).length) (hi : a.length + j < l.length) : l[a.length + j] = (v :: b)[j] := by
  subst e
  rw [List.getElem_append_right (by omega)]
  simp

end

/-- between the popping of the top frame and the look at its low -/
structure Popped (g : Tj.G) (k : Bk) (bs bt : Nat) (t : Int) (w0 : World) (s : Tj.S) (fs : List (Nat × Nat)) (v : Nat) (w : World) : Prop where
  inv : Tj.Inv g s
  cnt : CntOk g s
  hp : s.path = fs ++ [(v, g.st (v + 1))]
  par : ∀ fs' p d, fs = fs' ++ [(p, d)] → s.low p ≤ s.low v
  mem : Mem g k { s with path := fs } w
  grown : w0.grownBy w (some bs)
  sm : Blk w bs 21 #[.int .i32 (Tj.smOf t s.comps)]
  tx : Blk w bt 21 #[.int .i32 t]

section
variable {g : Tj.G} {k : Bk} {bs bt : Nat} {t : Int} {w0 w w' : World} {s : Tj.S} {fs : List (Nat × Nat)} {v : Nat}

theorem Fix.gP (F : Fix g k bs bt t w0) : k.bG ≤ k.bP := by have := F.ok.gO; have := F.ok.oO; have := F.ok.oL; have := F.ok.lL; have := F.ok.lN; have := F.ok.nN; have := F.ok.nP; omega
theorem Fix.gL (F : Fix g k bs bt t w0) : k.bG ≤ k.aL := by have := F.ok.gO; have := F.ok.oO; have := F.ok.oL; omega
theorem Fix.gN (F : Fix g k bs bt t w0) : k.bG ≤ k.aN := by have := F.ok.gO; have := F.ok.oO; have := F.ok.oL; have := F.ok.lL; have := F.ok.lN; omega
theorem Fix.gQ (F : Fix g k bs bt t w0) : k.bG ≤ k.bQ := by have := F.gP; have := F.ok.pQ; omega

theorem Rel.pop (h : Rel g k bs bt t w0 s w) (F : Fix g k bs bt t w0) {v pb cap : Nat} (hp : s.path = [(v, g.st (v + 1))]) (hT : TopAt k w 0 v (g.st (v + 1)) pb cap) :
    Popped g k bs bt t w0 s [] v (w.setCell ⟨k.bP, 0, none⟩ (.slice (some ⟨pb, 0, none⟩) 0 cap)) := by
  have hb : Below k.bG w (w.setCell ⟨k.bP, 0, none⟩ (.slice (some ⟨pb, 0, none⟩) 0 cap)) := (Below.refl _ _).setCell F.gP _
  exact ⟨h.inv, h.cnt, by simpa using hp, fun fs' p d e => by simp at e, h.mem.pop F.ok (fs := []) (by simpa using hp) hT, grown_below h.grown hb F.low, h.sm.below hb F.bsG, h.tx.below hb F.btG⟩

theorem Rel.popLow (h : Rel g k bs bt t w0 s w) (F : Fix g k bs bt t w0) {fs : List (Nat × Nat)} {p d v pb cap : Nat} (hp : s.path = (fs ++ [(p, d)]) ++ [(v, g.st (v + 1))]) (hT : TopAt k w (fs ++ [(p, d)]).length v (g.st (v + 1)) pb cap) :
    Popped g k bs bt t w0 { s with low := Tj.upd s.low p (min (s.low p) (s.low v)) } (fs ++ [(p, d)]) v
      ((w.setCell ⟨k.bP, 0, none⟩ (.slice (some ⟨pb, 0, none⟩) (fs ++ [(p, d)]).length cap)).setCell ⟨k.aL, p, none⟩ (.int .i32 ((min (s.low p) (s.low v) : Nat) : Int))) := by
  have hb : Below k.bG w ((w.setCell ⟨k.bP, 0, none⟩ (.slice (some ⟨pb, 0, none⟩) (fs ++ [(p, d)]).length cap)).setCell ⟨k.aL, p, none⟩ (.int .i32 ((min (s.low p) (s.low v) : Nat) : Int))) :=
    ((Below.refl _ _).setCell F.gP _).setCell F.gL _
  have htop := h.inv.top hp
  have hpv : s.pv = (fs.map Prod.fst ++ [p]) ++ [v] := by simp [Tj.S.pv, hp]
  have hpin : p ∈ s.pv := by rw [hpv]; simp
  have hpinc := h.inv.pinc
  rw [hpv, List.pairwise_append] at hpinc
  have hlt : s.ord p < s.ord v := hpinc.2.2 p (by simp) v (by simp)
  have hne : v ≠ p := fun e => by rw [e] at hlt; omega
  have hpr := h.inv.preach
  rw [hpv, List.pairwise_append] at hpr
  have hreach : Tj.Reach g p v := hpr.2.2 p (by simp) v (by simp)
  have hi : Tj.Inv g { s with low := Tj.upd s.low p (min (s.low p) (s.low v)) } := by
    refine Tj.inv_low h.inv hpin (Nat.min_le_left _ _) ?_
    rcases Nat.le_total (s.low p) (s.low v) with hle | hle
    · rw [Nat.min_eq_left hle]
      exact h.inv.lowAt p (h.inv.sub p hpin)
    · rw [Nat.min_eq_right hle]
      obtain ⟨x, hx1, hx2, hx3⟩ := h.inv.lowAt v htop.1
      exact ⟨x, hx1, hx2, hreach.trans hx3⟩
  refine ⟨hi, ⟨h.cnt.sum, h.cnt.op, h.cnt.pa⟩, hp, ?_, (h.mem.pop F.ok hp hT).setL F.ok p _, grown_below h.grown hb F.low, h.sm.below hb F.bsG, h.tx.below hb F.btG⟩
  intro fs' p' d' e
  have e2 := List.append_inj_right' e rfl
  simp only [List.cons.injEq, Prod.mk.injEq, and_true] at e2
  obtain ⟨rfl, _⟩ := e2
  show Tj.upd s.low p (min (s.low p) (s.low v)) p ≤ Tj.upd s.low p (min (s.low p) (s.low v)) v
  rw [Tj.upd_same, Tj.upd_other _ _ hne]
  exact Nat.min_le_right _ _

theorem Popped.next (h : Popped g k bs bt t w0 s fs v w) (hne : s.low v ≠ s.ord v) : Rel g k bs bt t w0 { s with path := fs } w := by
  have htop := h.inv.top h.hp
  have hlt : s.low v < s.ord v := by have := h.inv.lowLe v htop.1; omega
  rcases List.eq_nil_or_concat fs with e | ⟨fs', ⟨p, d⟩, e⟩
  · subst e
    exact absurd (h.inv.has_parent (by simpa using h.hp)) hne
  · rw [List.concat_eq_append] at e
    subst e
    exact ⟨Tj.inv_pop h.inv h.hp (h.par _ _ _ rfl) hlt, ⟨h.cnt.sum, h.cnt.op, by have := h.cnt.pa; rw [h.hp] at this; simp at this; show (fs' ++ [(p, d)]).length ≤ s.cnt; simp; omega⟩, h.mem, h.grown, h.sm, h.tx⟩

theorem offAll_nil (on : Nat → Bool) : Tj.offAll on [] = on := by funext u; simp [Tj.offAll]
theorem offAll_snoc (on : Nat → Bool) (l : List Nat) (x : Nat) : Tj.upd (Tj.offAll on l) x false = Tj.offAll on (l ++ [x]) := by
  funext u
  by_cases e : u = x
  · subst e; rw [Tj.upd_same]; simp [Tj.offAll]
  · rw [Tj.upd_other _ _ e]; simp [Tj.offAll, e]

theorem Mem.grown (h : Mem g k s w) (F : Fix g k bs bt t w0) (hg : w.grownBy w' (some bs)) : Mem g k s w' := by
  have o := F.ok
  obtain ⟨o1, o2, o3, o4, o5, o6, o7, o8, o9, o10, o11, o12⟩ := id o
  have hbs := F.bsG
  have hz := h.sz
  have h3 := h.gBox.lt
  have hs := hg.size
  have e : ∀ {b T C}, Blk w b T C → k.bG ≤ b → Blk w' b T C := fun hB hb => hB.grown hg (fun e => by simp only [Option.some.injEq] at e; omega)
  refine ⟨by omega, h.gm.other (hg.block _ (by omega) (fun e => F.neS (by simpa using e.symm))) (hg.block _ (by omega) (fun e => F.neX (by simpa using e.symm))), e h.gBox (by omega), e h.oArr (by omega), e h.oBox (by omega), e h.lArr (by omega), e h.lBox (by omega), e h.nArr (by omega), e h.nBox (by omega), ?_, ?_, e h.rBox (by omega)⟩
  · obtain ⟨pv, hp1, hp2⟩ := h.pBox
    refine ⟨pv, e hp1 (by omega), ?_⟩
    refine hp2.kept hg ?_
    rcases hp2.2 with ⟨h1, _⟩ | ⟨g', cap', cur, h1, h2, _⟩
    · rw [h1]; exact Or.inl rfl
    · rw [h1]; refine Or.inr (fun e => ?_); simp only [Value.ownBlock, Option.some.injEq] at e; omega
  · obtain ⟨qv, hp1, hp2⟩ := h.qBox
    refine ⟨qv, e hp1 (by omega), ?_⟩
    refine hp2.kept hg ?_
    rcases hp2.2 with ⟨h1, _⟩ | ⟨g', cap', cur, h1, h2, _⟩
    · rw [h1]; exact Or.inl rfl
    · rw [h1]; refine Or.inr (fun e => ?_); simp only [Value.ownBlock, Option.some.injEq] at e; omega

/-- the component is told -/
theorem Popped.found (h : Popped g k bs bt t w0 s fs v w) (F : Fix g k bs bt t w0) (heq : s.low v = s.ord v) {a b : List Nat} (ho : s.opn = a ++ v :: b) {w1 w2 : World} (hb1 : Below k.bG w w1) (hg2 : w1.grownBy w2 (some bs))
    (hs2 : Blk w2 bs 21 #[.int .i32 (Tj.upSm t (Tj.smOf t s.comps) (v :: b))]) (hM : Mem g k { s with path := fs, on := Tj.offAll s.on (v :: b) } w2) {qb cap : Nat} (hO : OpenAt k w2 s.opn qb cap) :
    Rel g k bs bt t w0 { s with path := fs, opn := a, on := Tj.offAll s.on (v :: b), comps := s.comps ++ [v :: b] } (w2.setCell ⟨k.bQ, 0, none⟩ (.slice (some ⟨qb, 0, none⟩) a.length cap)) := by
  have hb3 : Below k.bG w2 (w2.setCell ⟨k.bQ, 0, none⟩ (.slice (some ⟨qb, 0, none⟩) a.length cap)) := (Below.refl _ _).setCell F.gQ _
  have hM3 := hM.cutOpen F.ok (a := a) (b := v :: b) ho hO
  refine ⟨Tj.inv_found h.inv F.gok h.hp heq ho, ⟨h.cnt.sum, ?_, ?_⟩, ⟨hM3.sz, hM3.gm, hM3.gBox, hM3.oArr, hM3.oBox, hM3.lArr, hM3.lBox, hM3.nArr, hM3.nBox, hM3.pBox, hM3.qBox, hM3.rBox⟩, ?_, ?_, ?_⟩
  · have := h.cnt.op; rw [ho] at this; simp at this; show a.length ≤ s.cnt; omega
  · have := h.cnt.pa; rw [h.hp] at this; simp at this; show fs.length ≤ s.cnt; omega
  · have g1 := grown_below h.grown hb1 F.low
    have g2 : w0.grownBy w2 (some bs) := ⟨hg2.os.trans g1.os, hg2.tape.trans g1.tape, hg2.output.trans g1.output, Nat.le_trans g1.size hg2.size, fun j hj hne => (hg2.block j (by have := g1.size; omega) hne).trans (g1.block j hj hne)⟩
    exact grown_below g2 hb3 F.low
  · rw [Tj.smOf_snoc]
    exact hs2.below hb3 F.bsG
  · exact ((h.tx.below hb1 F.btG).grown hg2 (fun e => F.ne (by simpa using e.symm))).below hb3 F.btG

end
end Go.Proofs.Ybulkcnjc
