/-
  SerialOrder: what lies in memory between two steps.
-/
import Derived.Test.YbulkcnjcCHeapC
import Derived.Test.YbulkcnjcCPl
namespace Go.Proofs.Ybulkcnjc
open Go.RowKit Go.Deep Hp
set_option linter.unusedVariables false
attribute [local go_sem ↓] Go.wp_at_zero Go.wp_at_succ

theorem owns_types {w : World} {base base' e1 e2 s1 s2 n1 n2 : Nat} {u v : Value} {xs ys : List Value} (h1 : w.ownsRow base e1 s1 u n1 xs) (h2 : w.ownsRow base' e2 s2 v n2 ys) (hne : e1 ≠ e2) : ∀ b, u.ownBlock = some b → v.ownBlock ≠ some b := by
  intro b hu hv
  rcases h1.2 with ⟨rfl, _⟩ | ⟨g, cap, cur, rfl, hb, hg, _⟩
  · simp [Value.ownBlock] at hu
  · rcases h2.2 with ⟨rfl, _⟩ | ⟨g', cap', cur', rfl, hb', hg', _⟩
    · simp [Value.ownBlock] at hv
    · simp only [Value.ownBlock, Option.some.injEq] at hu hv
      subst hu
      subst hv
      rw [hg] at hg'
      simp only [Option.some.injEq, Obj.cells.injEq] at hg'
      exact hne hg'.2.1

theorem owns_apart' {w w' : World} {base e size : Nat} {v u : Value} {n : Nat} {xs : List Value} (h : w.ownsRow base e size u n xs) (hg : w.grownBy w' v.ownBlock) (ha : ∀ b, u.ownBlock = some b → v.ownBlock ≠ some b) : w'.ownsRow base e size u n xs := by
  refine h.kept hg ?_
  cases hu : u.ownBlock with
  | none => exact Or.inl rfl
  | some b => exact Or.inr (fun e => ha b hu e.symm)

theorem owns_hfr {w w' : World} {hb base e size : Nat} {hv u : Value} {n : Nat} {xs : List Value} (h : w.ownsRow base e size u n xs) (hlb : hb < base) (hf : HFr hb hv w w') (ha : ∀ b, u.ownBlock = some b → hv.ownBlock ≠ some b) : w'.ownsRow base e size u n xs := by
  refine ⟨h.1, ?_⟩
  rcases h.2 with hn | ⟨g, cap, cur, rfl, hbg, hgg, rest⟩
  · exact .inl hn
  · refine .inr ⟨g, cap, cur, rfl, hbg, ?_, rest⟩
    rw [hf.block g (Array.getElem?_eq_some_iff.1 hgg).1 (by omega) (fun e => ha g rfl e.symm)]
    exact hgg

structure SM (B0 bW hb : Nat) (w0 : World) (m : Nat) (Wt F : Nat → Nat) (n : Nat) (hv : Value) (S : Nat → Bool) (ov : Value) (os : List Value) (w : World) : Prop where
  bel : Below B0 w0 w
  wb : Blk w bW 3 (lints m Wt)
  hm : HM hb (hb + 1) F n hv w
  ish : IsH F n
  of : Of F n S
  od : w.ownsRow (hb + 1) 3 1 ov os.length os
  h1 : B0 ≤ bW
  h2 : bW < hb

section
variable {B0 bW hb : Nat} {w0 : World} {m : Nat} {Wt F : Nat → Nat} {n : Nat} {hv : Value} {S : Nat → Bool} {ov : Value} {os : List Value} {w w' : World}

/-- a step of the heap -/
theorem SM.heap (h : SM B0 bW hb w0 m Wt F n hv S ov os w) (hf : HFr hb hv w w') {F' : Nat → Nat} {n' : Nat} {hv' : Value} {S' : Nat → Bool} (hm : HM hb (hb + 1) F' n' hv' w') (hi : IsH F' n') (ho : Of F' n' S') :
    SM B0 bW hb w0 m Wt F' n' hv' S' ov os w' := by
  have a1 := h.h1
  have a2 := h.h2
  have a3 := h.wb.lt
  have hn : ∀ b, b ≤ hb → some b ≠ hv.ownBlock := fun b hb' e => by have := (h.hm.row.lt b e.symm).1; omega
  refine ⟨⟨hf.os.trans h.bel.os, hf.tape.trans h.bel.tape, hf.output.trans h.bel.output, Nat.le_trans h.bel.size hf.size, fun k hk => ?_⟩, ?_, hm, hi, ho, owns_hfr h.od (by omega) hf (owns_types h.od h.hm.row (by decide)), a1, a2⟩
  · rw [hf.block k (by omega) (by omega) (hn k (by omega))]
    exact h.bel.block k hk
  · unfold Blk
    rw [hf.block bW a3 (by omega) (hn bW (by omega))]
    exact h.wb

/-- a number of 'waiting' turns -/
theorem SM.wait (h : SM B0 bW hb w0 m Wt F n hv S ov os w) (i x : Nat) : SM B0 bW hb w0 m (Tj.upd Wt i x) F n hv S ov os (w.setCell ⟨bW, i, none⟩ (.int .i64 (x : Int))) := by
  have a1 := h.h1
  have a2 := h.h2
  refine ⟨h.bel.setCell (by exact a1) _, ?_, ⟨h.hm.box.other (by show hb ≠ bW; omega) _, ownsRow_setCell_below h.hm.row (by show bW < hb + 1; omega) _, h.hm.lb, by rw [World.size_setCell]; exact h.hm.sz⟩, h.ish, h.of, ownsRow_setCell_below h.od (by show bW < hb + 1; omega) _, a1, a2⟩
  have := h.wb.set i (.int .i64 (x : Int))
  rwa [lints_set] at this

/-- blocks behind -/
theorem SM.below (h : SM B0 bW hb w0 m Wt F n hv S ov os w) (hb' : Below w.heap.size w w') : SM B0 bW hb w0 m Wt F n hv S ov os w' := by
  have a1 := h.h1
  have a3 := h.wb.lt
  have a4 := h.hm.box.lt
  have a5 := hb'.size
  have a6 := h.hm.sz
  exact ⟨h.bel.trans (hb'.mono (by omega)), h.wb.below hb' a3, ⟨h.hm.box.below hb' a4, owns_below h.hm.row hb', h.hm.lb, by omega⟩, h.ish, h.of, owns_below h.od hb', a1, h.h2⟩

/-- a number more in 'order' -/
theorem SM.push (h : SM B0 bW hb w0 m Wt F n hv S ov os w) {o : Obj} {w4 : World} {g cap : Nat} {v : Value} (hg : (w.alloc o).grownBy w4 ov.ownBlock) (hown : w4.ownsRow (hb + 1) 3 1 (.slice (some ⟨g, 0, none⟩) (os.length + 1) cap) (os.length + 1) (os ++ [v])) :
    SM B0 bW hb w0 m Wt F n hv S (.slice (some ⟨g, 0, none⟩) (os.length + 1) cap) (os ++ [v]) w4 := by
  have h' := h.below ((Below.refl _ _).alloc (Nat.le_refl _) o)
  have a1 := h'.h1
  have a2 := h'.h2
  have a3 := h'.wb.lt
  have a6 := h'.hm.sz
  have a7 := hg.size
  have hn : ∀ b, b ≤ hb → some b ≠ ov.ownBlock := fun b hb' e => by have := (h'.od.lt b e.symm).1; omega
  refine ⟨h'.bel.grown hg (by omega) (fun x hx => by have := (h'.od.lt x hx).1; omega), h'.wb.grown hg (hn bW (by omega)), ⟨h'.hm.box.grown hg (hn hb (Nat.le_refl _)), owns_apart' h'.hm.row hg (owns_types h'.hm.row h'.od (by decide)), h'.hm.lb, by omega⟩, h.ish, h.of, by rw [List.length_append]; exact hown, a1, a2⟩
end

theorem below_q {B : Nat} {a w : World} (h : Below B a w) (n : Nat) : Below B a (w.drewN n) := ⟨h.os, h.tape, h.output, h.size, h.block⟩

/-- the successors of v -/
def SuccRes (bX K a b : Nat) (w : World) (e : Ending) (w' : World) : Prop := ∃ off c L, a + L = b ∧ e = .returned (.slice (some ⟨bX, off, none⟩) L c) ∧ (0 < L → off = a) ∧ Below w.heap.size w w'

set_option maxRecDepth 100000 in
set_option maxHeartbeats 1600000 in
theorem succ_any (m K bS bX v a b : Nat) (w : World) (hm : m ≤ 512) (hK : K ≤ 1024) (hv : v < m) (ha : w.cell? ⟨bS, v, none⟩ = some (.int .i64 (a : Int))) (hb : w.cell? ⟨bS, v + 1, none⟩ = some (.int .i64 (b : Int))) (hab : a ≤ b) (hbK : b ≤ K) (hbS : bS < w.heap.size) :
    Calls Yba.prog 17 #[gv m K bS bX, .int .i32 (v : Int)] w fun e w' => SuccRes bX K a b w e w' := by
  have hvi : (v : Int) < (m : Int) + 1 := by omega
  have hvj : (v : Int) + 1 < (m : Int) + 1 := by omega
  have habi : (a : Int) ≤ (b : Int) := by omega
  have hbKi : (b : Int) ≤ (K : Int) := by omega
  have hne : ¬ bS = w.heap.size := by omega
  unfold gv
  go_enter Yba.func17, Yba.ntmps17
  go_wp2
  go_quiet (fail)
  go_wp2
  · go_ret
    exact ⟨_, _, b - a, by omega, rfl, fun h => by omega, below_q ((Below.refl _ _).alloc (Nat.le_refl _) _) _⟩
  · go_ret
    exact ⟨_, _, b - a, by omega, rfl, fun h => rfl, below_q ((Below.refl _ _).alloc (Nat.le_refl _) _) _⟩

theorem cnt_upd (F : Nat → Nat) (k : Nat) : Tj.upd (Tj.cnt F k) (F k) (Tj.cnt F k (F k) + 1) = Tj.cnt F (k + 1) := by
  funext u
  unfold Tj.upd
  show _ = Tj.cnt F k u + _
  by_cases e : u = F k
  · subst e; simp
  · rw [if_neg e, if_neg (fun h => e h.symm)]; rfl

end Go.Proofs.Ybulkcnjc
