/-
  slices.Compact at Edge.
-/
import Derived.Test.YbulkcnjcCEd
import Derived.Laws.StructEq
import Derived.Laws.IdiomCopy
namespace Go.Proofs.Ybulkcnjc
open Go.RowKit Go.Deep
set_option linter.unusedVariables false
attribute [local go_sem ↓] Go.wp_at_zero Go.wp_at_succ

def eqP (a b c d : Int) : Bool := (a == c) && (b == d)
theorem eqP_iff (a b c d : Int) : eqP a b c d = true ↔ a = c ∧ b = d := by simp [eqP]
theorem equalE (a b c d : Int) (W : World) : (Op.equalIn 10000 52 (.agg #[.int .i64 a, .int .i64 b]) (.agg #[.int .i64 c, .int .i64 d])).run Yba.prog W = .ok (eqP a b c d) W := by
  have u3 := Yba.underlying3
  have a3 := Yba.isAgg3
  have z3 := Yba.sizeOf3
  have hS : Yba.prog.underlying 52 = some (.struct (Yba.prog.fieldsOf 52)) := by kernel_rfl
  have hp : Yba.prog.stoodInHeld 52 = false := by kernel_rfl
  rw [show (10000 : Nat) = 9999 + 1 from rfl, run_equalIn_agg W 9999 52 _ _ hS hp]
  simp only [Program.fieldsOf, Yba.underlying52]
  go_simp
  by_cases h1 : a = c <;> by_cases h2 : b = d <;> simp [h1, h2, eqP]
theorem eqE (a b c d : Int) (W : World) : (binOp .eql 52 (.agg #[.int .i64 a, .int .i64 b]) (.agg #[.int .i64 c, .int .i64 d])).run Yba.prog W = .ok (.bool (eqP a b c d)) W := by
  rw [run_eql_struct, equalE]; rfl
theorem neqE (a b c d : Int) (W : World) : (binOp .neq 52 (.agg #[.int .i64 a, .int .i64 b]) (.agg #[.int .i64 c, .int .i64 d])).run Yba.prog W = .ok (.bool (!eqP a b c d)) W := by
  rw [run_neq_struct, equalE]; rfl
theorem guardE : Yba.prog.eqGuardType Yba.prog.depth 52 = false := by kernel_rfl

/-- a row of edges in memory, cell by cell -/
def ERow (g n : Nat) (D : Nat → Int × Int) (w : World) : Prop := ∀ i, i < n → w.cell? ⟨g, i * 2, none⟩ = some (.int .i64 (D i).1) ∧ w.cell? ⟨g, i * 2 + 1, none⟩ = some (.int .i64 (D i).2) ∧ w.frozen? ⟨g, i * 2, none⟩ = false ∧ w.frozen? ⟨g, i * 2 + 1, none⟩ = false

def ltP (x y : Int × Int) : Prop := x.1 < y.1 ∨ (x.1 = y.1 ∧ x.2 < y.2)
theorem ltP_trans {x y z : Int × Int} (h1 : ltP x y) (h2 : ltP y z) : ltP x z := by unfold ltP at *; omega
theorem leP_lt {x y z : Int × Int} (h1 : ¬ ltP y x) (h2 : ltP y z) : ltP x z := by unfold ltP at *; omega
theorem ltP_of {x y : Int × Int} (h1 : ¬ ltP y x) (hne : ¬ (y.1 = x.1 ∧ y.2 = x.2)) : ltP x y := by unfold ltP at *; omega

theorem ERow.store {g n : Nat} {D : Nat → Int × Int} {w : World} (h : ERow g n D w) {k : Nat} (hk : k < n) (x : Int × Int) :
    ERow g n (Tj.upd D k x) ((w.setCell ⟨g, k * 2, none⟩ (.int .i64 x.1)).setCell ⟨g, k * 2 + 1, none⟩ (.int .i64 x.2)) := by
  intro i hi
  obtain ⟨c1, c2, f1, f2⟩ := h i hi
  obtain ⟨k1, k2, _, _⟩ := h k hk
  have ne : ∀ (a b : Nat), a ≠ b → (⟨g, a, none⟩ : Addr) ≠ ⟨g, b, none⟩ := fun a b hab e => hab (by injection e)
  refine ⟨?_, ?_, by rw [World.frozen?_setCell, World.frozen?_setCell]; exact f1, by rw [World.frozen?_setCell, World.frozen?_setCell]; exact f2⟩
  · rw [World.cell?_setCell_other _ _ _ _ (ne _ _ (by omega))]
    by_cases e : i = k
    · subst e
      rw [World.cell?_setCell_same' _ _ _ (by rw [k1]; rfl)]
      simp [Tj.upd]
    · rw [World.cell?_setCell_other _ _ _ _ (ne _ _ (by omega)), c1]
      simp [Tj.upd, e]
  · by_cases e : i = k
    · subst e
      rw [World.cell?_setCell_same' _ _ _ (by rw [World.cell?_setCell_other _ _ _ _ (ne _ _ (by omega)), k2]; rfl)]
      simp [Tj.upd]
    · rw [World.cell?_setCell_other _ _ _ _ (ne _ _ (by omega)), World.cell?_setCell_other _ _ _ _ (ne _ _ (by omega)), c2]
      simp [Tj.upd, e]

theorem clearE (g o n c : Nat) (w : World) (hn : 0 < n) (hc : ∀ j, j < n * 2 → (w.cell? ⟨g, o + j, none⟩).isSome = true) (hf : ∀ j, j < n * 2 → w.frozen? ⟨g, o + j, none⟩ = false) (ty : TypeId) :
    (Builtin.clear_ #[47] ty #[.slice (some ⟨g, o, none⟩) n c]).run Yba.prog w = .ok (.tuple #[]) (w.setCells g o (List.replicate (n * 2) (.int .i64 0))) := by
  have hzc : (Builtin.zeroCells (Value.agg #[.int .i64 0, .int .i64 0]).cells n).toList = List.replicate (n * 2) (.int .i64 0) := by
    apply List.ext_getElem
    · simp [Builtin.zeroCells, Value.cells]
    · intro i h1 h2
      have hm : i % 2 = 0 ∨ i % 2 = 1 := by omega
      rcases hm with hm | hm <;> simp [Builtin.zeroCells, Value.cells, hm]
  have hst := run_storeCells_cells (P := Yba.prog) g o (List.replicate (n * 2) (.int .i64 0)) 0 w (by simpa using hc) (by simpa using hf) (by intro v hv'; rw [List.eq_of_mem_replicate hv']; rfl)
  simp only [Nat.add_zero] at hst
  obtain ⟨m, rfl⟩ : ∃ m, n = m + 1 := ⟨n - 1, by omega⟩
  simp [Builtin.clear_, run_underlying Yba.underlying47, Yba.zeroValue52, hzc, hst]

theorem grown_setCells (g : Nat) : ∀ (vs : List Value) (o : Nat) (w : World), w.grownBy (w.setCells g o vs) (some g)
  | [], _, w => World.grownBy.refl _ _
  | v :: r, o, w => by
    refine World.grownBy.trans (b := w.setCell ⟨g, o, none⟩ v) ⟨rfl, rfl, rfl, by rw [World.size_setCell]; exact Nat.le_refl _, fun b hb hne => Below.heap_setCell _ _ _ _ (fun e => hne (by rw [e]))⟩ (grown_setCells g r (o + 1) _)

structure CM (g n : Nat) (D : Nat → Int × Int) (w0 w : World) : Prop where
  row : ERow g n D w
  fr : w0.grownBy w (some g)

theorem CM.store {g n : Nat} {D : Nat → Int × Int} {w0 w : World} (h : CM g n D w0 w) {k : Nat} (hk : k < n) (x : Int × Int) :
    CM g n (Tj.upd D k x) w0 ((w.setCell ⟨g, k * 2, none⟩ (.int .i64 x.1)).setCell ⟨g, k * 2 + 1, none⟩ (.int .i64 x.2)) := by
  refine ⟨h.row.store hk x, ⟨h.fr.os, h.fr.tape, h.fr.output, by rw [World.size_setCell, World.size_setCell]; exact h.fr.size, fun b hb hne => ?_⟩⟩
  rw [Below.heap_setCell _ _ _ _ (fun e => hne (by rw [e])), Below.heap_setCell _ _ _ _ (fun e => hne (by rw [e]))]
  exact h.fr.block b hb hne
theorem CM.drewN {g n : Nat} {D : Nat → Int × Int} {w0 w : World} (h : CM g n D w0 w) (q : Nat) : CM g n D w0 (w.drewN q) := ⟨h.row, ⟨h.fr.os, h.fr.tape, h.fr.output, h.fr.size, h.fr.block⟩⟩
theorem CM.clear {g n : Nat} {D : Nat → Int × Int} {w0 w : World} (h : CM g n D w0 w) {k : Nat} (hk : k ≤ n) (vs : List Value) : CM g k D w0 (w.setCells g (k * 2) vs) := by
  refine ⟨fun i hi => ?_, h.fr.trans (grown_setCells g vs _ w)⟩
  obtain ⟨c1, c2, f1, f2⟩ := h.row i (by omega)
  refine ⟨?_, ?_, by rw [World.frozen?_setCells]; exact f1, by rw [World.frozen?_setCells]; exact f2⟩
  · rw [World.cell?_setCells_out _ _ _ _ _ (fun _ _ => Or.inl (by show i * 2 < k * 2; omega))]; exact c1
  · rw [World.cell?_setCells_out _ _ _ _ _ (fun _ _ => Or.inl (by show i * 2 + 1 < k * 2; omega))]; exact c2

/-- what has been kept of the first t -/
structure Kept (D0 D : Nat → Int × Int) (n t k : Nat) : Prop where
  inc : ∀ i j, i < j → j < k → ltP (D i) (D j)
  mem : ∀ x, (∃ i, i < k ∧ D i = x) ↔ (∃ i, i < t ∧ D0 i = x)
  rest : ∀ p, t ≤ p + 1 → p < n → D p = D0 p
  le : k ≤ t
  pos : 0 < k

theorem Kept.same {D0 D : Nat → Int × Int} {n t k : Nat} (h : Kept D0 D n t k) (ht : 0 < t) (he : D0 t = D0 (t - 1)) : Kept D0 D n (t + 1) k := by
  refine ⟨h.inc, fun x => ?_, fun p hp hpn => h.rest p (by omega) hpn, by have := h.le; omega, h.pos⟩
  rw [h.mem]
  constructor
  · rintro ⟨i, hi, e⟩
    exact ⟨i, by omega, e⟩
  · rintro ⟨i, hi, e⟩
    by_cases h' : i = t
    · subst h'
      exact ⟨i - 1, by omega, by rw [← he]; exact e⟩
    · exact ⟨i, by omega, e⟩

theorem Kept.more {D0 D : Nat → Int × Int} {n t k : Nat} (h : Kept D0 D n t k) (ht : t < n) (hs : ∀ i j, i < j → j < n → ¬ ltP (D0 j) (D0 i)) (hne : ltP (D0 (t - 1)) (D0 t)) : Kept D0 (Tj.upd D k (D0 t)) n (t + 1) (k + 1) := by
  have hpos := h.pos
  have hle := h.le
  have hlast : ∀ i, i < k → ltP (D i) (D0 t) := fun i hi => by
    obtain ⟨i', hi', e⟩ := (h.mem (D i)).1 ⟨i, hi, rfl⟩
    rw [← e]
    by_cases h' : i' = t - 1
    · subst h'; exact hne
    · exact leP_lt (hs i' (t - 1) (by omega) (by omega)) hne
  refine ⟨fun i j hij hj => ?_, fun x => ?_, fun p hp hpn => ?_, by omega, by omega⟩
  · by_cases e : j = k
    · subst e
      simp only [Tj.upd, if_true, if_neg (show ¬ i = j by omega)]
      exact hlast i hij
    · simp only [Tj.upd, if_neg e, if_neg (show ¬ i = k by omega)]
      exact h.inc i j hij (by omega)
  · constructor
    · rintro ⟨i, hi, e⟩
      by_cases h' : i = k
      · subst h'
        exact ⟨t, by omega, by simpa [Tj.upd] using e⟩
      · obtain ⟨i', hi', e'⟩ := (h.mem x).1 ⟨i, by omega, by simpa [Tj.upd, h'] using e⟩
        exact ⟨i', by omega, e'⟩
    · rintro ⟨i, hi, e⟩
      by_cases h' : i = t
      · subst h'
        exact ⟨k, by omega, by simpa [Tj.upd] using e⟩
      · obtain ⟨i', hi', e'⟩ := (h.mem x).2 ⟨i, by omega, e⟩
        exact ⟨i', by omega, by simp [Tj.upd, show i' ≠ k by omega, e']⟩
  · by_cases e : p = k
    · have e' : t = p := by omega
      simp only [Tj.upd, if_pos e, e']
    · simp only [Tj.upd, if_neg e]
      exact h.rest p (by omega) hpn

theorem Kept.start {D0 : Nat → Int × Int} {n k : Nat} (hk : 0 < k) (hi : ∀ i j, i < j → j < k → ltP (D0 i) (D0 j)) : Kept D0 D0 n k k :=
  ⟨hi, fun x => Iff.rfl, fun p _ _ => rfl, Nat.le_refl _, hk⟩

def CompRes (g n cap : Nat) (D0 : Nat → Int × Int) (w : World) (e : Ending) (w' : World) : Prop :=
  ∃ K D, e = .returned (.slice (some ⟨g, 0, none⟩) K cap) ∧ K ≤ n ∧ CM g K D w w' ∧ (∀ i j, i < j → j < K → ltP (D i) (D j)) ∧ ∀ x, (∃ i, i < K ∧ D i = x) ↔ (∃ i, i < n ∧ D0 i = x)

set_option maxRecDepth 100000 in
set_option maxHeartbeats 6400000 in
theorem compE_any (g n cap : Nat) (D0 : Nat → Int × Int) (w : World) (hn : n ≤ 2000) (hcap : n ≤ cap) (hr : ERow g n D0 w) (hs : ∀ i j, i < j → j < n → ¬ ltP (D0 j) (D0 i)) :
    Calls Yba.prog 29 #[.slice (some ⟨g, 0, none⟩) n cap] w fun e w' => CompRes g n cap D0 w e w' := by
  have HR : Hid (ERow g n D0 w) := hr
  have HS : Hid (∀ i j, i < j → j < n → ¬ ltP (D0 j) (D0 i)) := hs
  clear hr hs
  have h1e := eqE
  have h2e := neqE
  have hge := guardE
  go_enter Yba.func29, Yba.ntmps29
  by_cases hn2 : n < 2
  · have hni : (n : Int) < 2 := by omega
    go_wp2
    go_ret
    exact ⟨n, D0, rfl, Nat.le_refl _, ⟨HR.out, World.grownBy.refl _ _⟩, fun i j hij hj => by omega, fun x => Iff.rfl⟩
  · have hni : ¬ (n : Int) < 2 := by omega
    go_wp2
    go_loopg [3] n (fun gk x wr => ∃ k : Nat, 1 ≤ k ∧ k ≤ n ∧ gk + k = n + 1 ∧ x = .int .i64 (k : Int) ∧ (∀ i j, i < j → j < k → ltP (D0 i) (D0 j)) ∧ CM g n D0 w wr)
    case atStart => exact ⟨1, by omega, by omega, rfl, rfl, fun i j h1 h2 => by omega, ⟨HR.out, World.grownBy.refl _ _⟩⟩
    case round =>
      obtain ⟨k, hk1, hkn, hgk, rfl, hinc, hM⟩ := hrel
      have HInc : Hid (∀ i j, i < j → j < k → ltP (D0 i) (D0 j)) := hinc
      have HM : Hid (CM g n D0 w wr) := hM
      clear hinc
      by_cases hkl : k < n
      · have hki : (k : Int) < (n : Int) := by omega
        obtain ⟨j, hj⟩ : ∃ j, k = j + 1 := ⟨k - 1, by omega⟩
        have hkj : (k : Int) - 1 = (j : Int) := by omega
        have hjn : (j : Int) < (n : Int) := by omega
        obtain ⟨c1, c2, f1, f2⟩ := hM.row k hkl
        obtain ⟨c3, c4, f3, f4⟩ := hM.row j (by omega)
        have HP : Hid (eqP (D0 k).1 (D0 k).2 (D0 j).1 (D0 j).2 = true ↔ (D0 k).1 = (D0 j).1 ∧ (D0 k).2 = (D0 j).2) := eqP_iff _ _ _ _
        clear hM f1 f2 f3 f4
        have HJ : Hid (k = j + 1) := hj
        clear hj
        cases hb : eqP (D0 k).1 (D0 k).2 (D0 j).1 (D0 j).2 with
        | true =>
          have HB : Hid (eqP (D0 k).1 (D0 k).2 (D0 j).1 (D0 j).2 = true) := hb
          generalize (D0 k).1 = x1 at c1 hb
          generalize (D0 k).2 = x2 at c2 hb
          generalize (D0 j).1 = y1 at c3 hb
          generalize (D0 j).2 = y2 at c4 hb
          have hck : ¬ cap = k := by omega
          have hkc : (k : Int) ≤ (cap : Int) := by omega
          go_wp2
          go_quiet (fail)
          obtain ⟨L, hL⟩ : ∃ L, n = k + L := ⟨n - k, by omega⟩
          subst hL
          go_wp2
          have hKept : Kept D0 D0 (k + L) (k + 1) k := by
            have h1 := (eqP_iff _ _ _ _).1 HB.out
            have h2 : D0 k = D0 j := Prod.ext h1.1 h1.2
            refine (Kept.start (n := k + L) (by omega) HInc.out).same (by omega) ?_
            rw [h2, HJ.out]
            rfl
          have HK0 : Hid (Kept D0 D0 (k + L) (k + 1) k) := hKept
          have HM0 : Hid (CM g (k + L) D0 w (wr.drewN nq)) := HM.out.drewN nq
          clear hKept c1 c2 c3 c4 hb HB HM HP hkj hjn
          generalize wr.drewN nq = w2 at HM0 ⊢
          go_loopg [3, 5] L (fun gk x3 x5 wr => ∃ (kk k2 : Nat) (D : Nat → Int × Int), 1 ≤ k2 ∧ k2 ≤ L ∧ gk + k2 = L + 1 ∧ x3 = .int .i64 (kk : Int) ∧ x5 = .int .i64 (k2 : Int) ∧ k ≤ kk ∧ kk < k + k2 ∧ Kept D0 D (k + L) (k + k2) kk ∧ CM g (k + L) D w wr)
          case atStart => exact ⟨k, 1, D0, by omega, by omega, rfl, rfl, rfl, Nat.le_refl _, by omega, HK0.out, HM0.out⟩
          case round =>
            clear HK0 HM0
            obtain ⟨kk, k2, D, h21, h2L, hgk2, rfl, rfl, hkk, hkk2, hKp, hM⟩ := hrel
            have HK : Hid (Kept D0 D (k + L) (k + k2) kk) := hKp
            have HM : Hid (CM g (k + L) D w wr) := hM
            by_cases hkl2 : k2 < L
            · have hk2i : (k2 : Int) < (L : Int) := by omega
              obtain ⟨j2, hj2⟩ : ∃ j2, k2 = j2 + 1 := ⟨k2 - 1, by omega⟩
              have hkj2 : (k2 : Int) - 1 = (j2 : Int) := by omega
              have hjL : (j2 : Int) < (L : Int) := by omega
              obtain ⟨c1, c2, _, _⟩ := hM.row (k + k2) (by omega)
              obtain ⟨c3, c4, _, _⟩ := hM.row (k + j2) (by omega)
              obtain ⟨c5, c6, f5, f6⟩ := hM.row kk (by omega)
              rw [hKp.rest (k + k2) (by omega) (by omega), Nat.add_mul] at c1 c2
              rw [hKp.rest (k + j2) (by omega) (by omega), Nat.add_mul] at c3 c4
              have HJ2 : Hid (k2 = j2 + 1) := hj2
              have HP : Hid (eqP (D0 (k + k2)).1 (D0 (k + k2)).2 (D0 (k + j2)).1 (D0 (k + j2)).2 = true ↔ (D0 (k + k2)).1 = (D0 (k + j2)).1 ∧ (D0 (k + k2)).2 = (D0 (k + j2)).2) := eqP_iff _ _ _ _
              have hkki : (kk : Int) < (k : Int) + (L : Int) := by omega
              clear hKp hM hj2
              cases hb : eqP (D0 (k + k2)).1 (D0 (k + k2)).2 (D0 (k + j2)).1 (D0 (k + j2)).2 with
              | true =>
                have HKs : Hid (Kept D0 D (k + L) (k + k2 + 1) kk) := by
                  have h1 := HP.out.1 hb
                  refine HK.out.same (by omega) ?_
                  rw [show k + k2 - 1 = k + j2 by have := HJ2.out; omega]
                  exact Prod.ext h1.1 h1.2
                generalize (D0 (k + k2)).1 = x1 at c1 hb
                generalize (D0 (k + k2)).2 = x2 at c2 hb
                generalize (D0 (k + j2)).1 = y1 at c3 hb
                generalize (D0 (k + j2)).2 = y2 at c4 hb
                clear HP c5 c6 f5 f6
                go_wp2
                go_quiet (fail)
                go_wp2
                go_roundg (gk - 1)
                case measure => omega
                case rel => exact ⟨kk, k2 + 1, D, by omega, by omega, by omega, rfl, by go_num, hkk, by omega, HKs.out, HM.out.drewN _⟩
              | false =>
                have HKs : Hid (Kept D0 (Tj.upd D kk (D0 (k + k2))) (k + L) (k + k2 + 1) (kk + 1)) := by
                  have hne : ¬ ((D0 (k + k2)).1 = (D0 (k + j2)).1 ∧ (D0 (k + k2)).2 = (D0 (k + j2)).2) := fun h => by
                    have := HP.out.2 h
                    rw [hb] at this
                    cases this
                  have hj2' := HJ2.out
                  refine HK.out.more (by omega) HS.out ?_
                  rw [show k + k2 - 1 = k + j2 by omega]
                  exact ltP_of (HS.out _ _ (by omega) (by omega)) hne
                have HMs : Hid (∀ q, CM g (k + L) (Tj.upd D kk (D0 (k + k2))) w (((wr.drewN q).setCell ⟨g, kk * 2, none⟩ (.int .i64 (D0 (k + k2)).1)).setCell ⟨g, kk * 2 + 1, none⟩ (.int .i64 (D0 (k + k2)).2))) := fun q => (HM.out.drewN q).store (by omega) _
                generalize D kk = old at c5 c6
                generalize D0 (k + k2) = xx at c1 c2 hb HKs HMs
                generalize (D0 (k + j2)).1 = y1 at c3 hb
                generalize (D0 (k + j2)).2 = y2 at c4 hb
                clear HP
                go_wp2
                go_quiet (fail)
                go_wp2
                go_roundg (gk - 1)
                case measure => omega
                case rel => exact ⟨kk + 1, k2 + 1, _, by omega, by omega, by omega, by go_num, by go_num, by omega, by omega, HKs.out, HMs.out _⟩
            · obtain rfl : k2 = L := by omega
              have hk2i : ¬ (k2 : Int) < (k2 : Int) := by omega
              have hck2 : ¬ cap = kk := by omega
              have hkc2 : (kk : Int) ≤ (cap : Int) := by omega
              have hkki : (kk : Int) ≤ (k : Int) + (k2 : Int) := by omega
              have hcl : ∀ ty, (Builtin.clear_ #[47] ty #[.slice (some ⟨g, kk * 2, none⟩) (k + k2 - kk) (cap - kk)]).run Yba.prog wr = .ok (.tuple #[]) (wr.setCells g (kk * 2) (List.replicate ((k + k2 - kk) * 2) (.int .i64 0))) := fun ty => by
                refine clearE g (kk * 2) (k + k2 - kk) (cap - kk) wr (by omega) (fun p hp => ?_) (fun p hp => ?_) ty
                · obtain ⟨c1, c2, _, _⟩ := hM.row (kk + p / 2) (by omega)
                  rcases (by omega : p % 2 = 0 ∨ p % 2 = 1) with h | h
                  · rw [show kk * 2 + p = (kk + p / 2) * 2 by omega, c1]; rfl
                  · rw [show kk * 2 + p = (kk + p / 2) * 2 + 1 by omega, c2]; rfl
                · obtain ⟨_, _, c1, c2⟩ := hM.row (kk + p / 2) (by omega)
                  rcases (by omega : p % 2 = 0 ∨ p % 2 = 1) with h | h
                  · rw [show kk * 2 + p = (kk + p / 2) * 2 by omega, c1]
                  · rw [show kk * 2 + p = (kk + p / 2) * 2 + 1 by omega, c2]
              clear hKp hM
              go_wp2
              go_ret
              exact ⟨kk, D, rfl, by omega, HM.out.clear (by omega) _, HK.out.inc, HK.out.mem⟩
        | false =>
          have HB : Hid (eqP (D0 k).1 (D0 k).2 (D0 j).1 (D0 j).2 = false) := hb
          generalize (D0 k).1 = x1 at c1 hb
          generalize (D0 k).2 = x2 at c2 hb
          generalize (D0 j).1 = y1 at c3 hb
          generalize (D0 j).2 = y2 at c4 hb
          go_wp2
          go_quiet (fail)
          go_wp2
          go_roundg (gk - 1)
          case measure => omega
          case rel =>
            refine ⟨k + 1, by omega, by omega, by omega, by go_num, fun a b hab hb' => ?_, HM.out.drewN _⟩
            by_cases e : b = k
            · subst e
              have hne : ¬ ((D0 b).1 = (D0 j).1 ∧ (D0 b).2 = (D0 j).2) := fun h => by
                have := (eqP_iff _ _ _ _).2 h
                rw [HB.out] at this
                cases this
              have hjb := HJ.out
              have hlt : ltP (D0 j) (D0 b) := ltP_of (HS.out j b (by omega) hkl) hne
              by_cases e' : a = j
              · subst e'; exact hlt
              · exact ltP_trans (HInc.out a j (by omega) (by omega)) hlt
            · exact HInc.out a b hab (by omega)
      · obtain rfl : k = n := by omega
        have hki : ¬ (k : Int) < (k : Int) := by omega
        clear hM
        go_wp2
        go_ret
        exact ⟨k, D0, rfl, Nat.le_refl _, HM.out, HInc.out, fun x => Iff.rfl⟩

end Go.Proofs.Ybulkcnjc
