/-
  fold[bool]'s visitor.
-/
import Derived.Test.YbulkcnkeBFold
namespace Go.Proofs.Ybulkcnke
open Go.RowKit Go.Maps
set_option linter.unusedVariables false
attribute [local go_sem ↓] Go.wp_at_zero Go.wp_at_succ

def VB (sk : Nat → Bool) (j : Nat) (v : Value) (w : World) : Prop := v = .bool (sk j)
def XB (p : Pr) (bq : Nat) (w : World) : Prop := w.cell? ⟨bq, 0, none⟩ = some (.pointer (some ⟨p.pP, 0, none⟩))
theorem stayB (p : Pr) (sk : Nat → Bool) (bq m lo : Nat) (h : bq ≠ m) (hl : bq < lo) : Stay (VB sk) (XB p bq) m lo := ⟨fun _ _ _ _ h _ => h, fun w w' hx hg => hg.cell hx (by simpa using h), fun _ _ _ _ _ _ _ _ h _ => h, fun w c i u hx hc => (grown_set w ⟨c, i, none⟩ u).cell hx (by simp; omega)⟩

theorem info4 : (Yba.prog.info? 4).map (fun i => (i.zero, i.size, i.bytes)) = some (some (.bool false), 1, 1) := by kernel_rfl

set_option maxRecDepth 100000 in
set_option maxHeartbeats 3200000 in
theorem visitB (p : Pr) (ok : p.Ok) (bM bV bP bF mM lo bq : Nat) (sk : Nat → Bool) (hsk : ∀ i, i < p.n → sk i = skF p sk i)
    (kok : Fk.Ok p ⟨bM, bV, bP, bF, mM, lo, 28, .func (.func 23) #[] #[.pointer (some ⟨bq, 0, none⟩)]⟩) (hbq : bq ≠ mM) (hbl : bq < lo) :
    ∀ i, i < p.n → ∀ w f, FI p ⟨bM, bV, bP, bF, mM, lo, 28, .func (.func 23) #[] #[.pointer (some ⟨bq, 0, none⟩)]⟩ (VB sk) (XB p bq) w f →
      Calls Yba.prog 28 #[.pointer (some ⟨p.pS, i * 12, none⟩), .pointer (some ⟨bM, 0, none⟩), .pointer (some ⟨bV, 0, none⟩), .pointer (some ⟨bP, 0, none⟩), .pointer (some ⟨bF, 0, none⟩)] w fun e w' => VRes p ⟨bM, bV, bP, bF, mM, lo, 28, .func (.func 23) #[] #[.pointer (some ⟨bq, 0, none⟩)]⟩ (VB sk) (XB p bq) f i w e w' := by
  intro i
  induction i using Nat.strongRecOn with
  | _ i ih =>
  intro hi w f h
  have hn := ok.n
  have st := stayB p sk bq mM lo hbq hbl
  have cM : w.cell? ⟨bM, 0, none⟩ = some (.map (some mM)) := h.cM
  have c0 := (h.pat.step i hi).id
  have H : Hid (FI p ⟨bM, bV, bP, bF, mM, lo, 28, .func (.func 23) #[] #[.pointer (some ⟨bq, 0, none⟩)]⟩ (VB sk) (XB p bq) w f) := h
  have IH : Hid (∀ a, a < i → a < p.n → ∀ w f, FI p ⟨bM, bV, bP, bF, mM, lo, 28, .func (.func 23) #[] #[.pointer (some ⟨bq, 0, none⟩)]⟩ (VB sk) (XB p bq) w f →
      Calls Yba.prog 28 #[.pointer (some ⟨p.pS, a * 12, none⟩), .pointer (some ⟨bM, 0, none⟩), .pointer (some ⟨bV, 0, none⟩), .pointer (some ⟨bP, 0, none⟩), .pointer (some ⟨bF, 0, none⟩)] w fun e w' => VRes p ⟨bM, bV, bP, bF, mM, lo, 28, .func (.func 23) #[] #[.pointer (some ⟨bq, 0, none⟩)]⟩ (VB sk) (XB p bq) f a w e w') := ih
  have OK : Hid p.Ok := ok
  have KOK : Hid (Fk.Ok p ⟨bM, bV, bP, bF, mM, lo, 28, .func (.func 23) #[] #[.pointer (some ⟨bq, 0, none⟩)]⟩) := kok
  have HSk : Hid (∀ i, i < p.n → sk i = skF p sk i) := hsk
  have ST : Hid (Stay (VB sk) (XB p bq) mM lo) := st
  clear ih ok kok hsk st
  cases hf : f i with
  | some v =>
    have hlk := (MapIs.drew h.map).look_ok Yba.underlying61 (zero4 _) (i := i) (by omega)
    rw [hf] at hlk
    simp only [Option.getD_some, Option.isSome_some] at hlk
    obtain ⟨_, rfl⟩ := h.val i v hf
    clear h
    go_enter Yba.func28, Yba.ntmps28
    go_wp2
    go_region
    go_wp2
    go_ret
    exact ⟨_, f, rfl, H.out.same OK.out KOK.out ST.out (grown_drew _ _), hf, fun j hj => hj, grown_drew _ _⟩
  | none =>
    have hlk := (MapIs.drew h.map).look_ok Yba.underlying61 (zero4 _) (i := i) (by omega)
    rw [hf] at hlk
    simp only [Option.getD_none, Option.isSome_none] at hlk
    obtain ⟨v, c1, sa, sc, sb, rfl, hs⟩ := (h.pat.step i hi).aft
    rw [ids_length] at c1
    have HS : Hid (∀ j, (h : j < (ids (p.aft i)).length) → sa = some ⟨sb, 0, none⟩ ∧ sb < p.base ∧ w.cell? ⟨sb, j, none⟩ = some (ids (p.aft i))[j]) := hs
    have hL := OK.out.aftL i hi
    have hsz := h.pat.sz
    have hmM : mM < w.heap.size := h.map.lt
    have hpS : p.pS < w.heap.size := Nat.lt_of_lt_of_le OK.out.pS hsz
    have hpSb : p.pS < p.base := OK.out.pS
    have hba : p.base ≤ mM := KOK.out.base
    have HF : Hid (f i = none) := hf
    clear h hs hf
    have hmk := fun W => run_make_row' (P := Yba.prog) 37 4 (.bool false) 1 Yba.underlying37 info4 rfl .i64 .i64 (p.aft i).length (by omega) (by omega) W
    go_enter Yba.func28, Yba.ntmps28
    go_wp2
    go_region
    go_wp2
    have HG0 : Hid (w.grownBy (w.alloc (.cells (madeCells #[.bool false] (p.aft i).length) 4)).drew (some mM)) := ((World.grownBy_alloc w _ none).but _).andThen (grown_drew _ none) (fun j hj => by cases hj)
    have HI0 : Hid (FI p ⟨bM, bV, bP, bF, mM, lo, 28, .func (.func 23) #[] #[.pointer (some ⟨bq, 0, none⟩)]⟩ (VB sk) (XB p bq) (w.alloc (.cells (madeCells #[.bool false] (p.aft i).length) 4)).drew f) := (H.out.same OK.out KOK.out ST.out (World.grownBy_alloc _ _ none)).same OK.out KOK.out ST.out (grown_drew _ _)
    have HB0 : Hid (Blk (w.alloc (.cells (madeCells #[.bool false] (p.aft i).length) 4)).drew w.heap.size 4 (vals (p.aft i).length (fun j => if j < 0 then .bool (sk ((p.aft i).getD j 0)) else .bool false))) := by
      have := Blk.new w (madeCells #[.bool false] (p.aft i).length) 4
      rw [made_vals] at this
      rw [made_vals]
      exact (this.drew : Blk _ _ _ _)
    have hlo : lo ≤ w.heap.size := H.out.lo
    clear hlk cM c0 c1 hmk
    generalize (w.alloc (.cells (madeCells #[.bool false] (p.aft i).length) 4)).drew = w1 at HG0 HI0 HB0 ⊢
    generalize hab : w.heap.size = ab at HB0 hlo ⊢
    go_loopg [37] (p.aft i).length (fun gk x wr => ∃ (k : Nat) (f' : Nat → Option Value), k ≤ (p.aft i).length ∧ gk + k = (p.aft i).length ∧ x = .int .i64 (k : Int) ∧ FI p ⟨bM, bV, bP, bF, mM, lo, 28, .func (.func 23) #[] #[.pointer (some ⟨bq, 0, none⟩)]⟩ (VB sk) (XB p bq) wr f' ∧ (∀ j, (f j).isSome = true → (f' j).isSome = true) ∧
        Blk wr ab 4 (vals (p.aft i).length (fun j => if j < k then .bool (sk ((p.aft i).getD j 0)) else .bool false)) ∧ w.grownBy wr (some mM))
    case atStart => exact ⟨0, f, Nat.zero_le _, rfl, rfl, HI0.out, fun j hj => hj, HB0.out, HG0.out⟩
    case round =>
      clear HG0 HI0 HB0
      obtain ⟨m, f', hm, hgk, rfl, hI, hext, hBk, hG⟩ := hrel
      have HI : Hid (FI p ⟨bM, bV, bP, bF, mM, lo, 28, .func (.func 23) #[] #[.pointer (some ⟨bq, 0, none⟩)]⟩ (VB sk) (XB p bq) wr f') := hI
      have HX : Hid (∀ j, (f j).isSome = true → (f' j).isSome = true) := hext
      have HBk : Hid (Blk wr ab 4 (vals (p.aft i).length (fun j => if j < m then .bool (sk ((p.aft i).getD j 0)) else .bool false))) := hBk
      have HG : Hid (w.grownBy wr (some mM)) := hG
      have hne : ab ≠ mM := by omega
      have n1 : ¬ bV = ab := by have h1 : bV < lo := KOK.out.lV; omega
      have n2 : ¬ bP = ab := by have h1 : bP < lo := KOK.out.lP; omega
      have n3 : ¬ ab = bV := fun e => n1 e.symm
      have n4 : ¬ ab = bP := fun e => n2 e.symm
      clear hext hBk hG
      by_cases hml : m < (p.aft i).length
      · have hmi : (m : Int) < ((p.aft i).length : Int) := by omega
        obtain ⟨rfl, hsb, d1⟩ := HS.out m (by rw [ids_length]; exact hml)
        rw [ids_at _ _ hml] at d1
        have ha : (p.aft i)[m] < i := OK.out.aft i hi _ (List.getElem_mem hml)
        have d1' : wr.cell? ⟨sb, m, none⟩ = some (.string (idB (p.aft i)[m])) := HG.out.cell d1 (by simp; omega)
        have cV : wr.cell? ⟨bV, 0, none⟩ = some (.func (.func 28) #[] #[.pointer (some ⟨bM, 0, none⟩), .pointer (some ⟨bV, 0, none⟩), .pointer (some ⟨bP, 0, none⟩), .pointer (some ⟨bF, 0, none⟩)]) := hI.cV
        have cP : wr.cell? ⟨bP, 0, none⟩ = some (.pointer (some ⟨p.pP, 0, none⟩)) := hI.cP
        have hg0 : (p.aft i).getD m 0 = (p.aft i)[m] := by simp [List.getD, List.getElem?_eq_getElem hml]
        clear d1 hI
        generalize (p.aft i)[m] = a at ha d1' hg0
        go_wp2
        go_region_held3 (fun w' => w'.cell? ⟨bV, 0, none⟩ = some (.func (.func 28) #[] #[.pointer (some ⟨bM, 0, none⟩), .pointer (some ⟨bV, 0, none⟩), .pointer (some ⟨bP, 0, none⟩), .pointer (some ⟨bF, 0, none⟩)]) ∧ w'.cell? ⟨bP, 0, none⟩ = some (.pointer (some ⟨p.pP, 0, none⟩)))
          (first | go_keep | (refine ⟨?_, ?_⟩ <;> assumption))
          (first
            | (go_at_call 24; refine (step_any p OK.out a (by omega) _ (by exact HI.out.pat.below OK.out (Below.refl _ _).drew (Nat.le_refl _))).mono ?_; rintro e w4 ⟨rfl, rfl⟩)
            | (go_at_call 28; refine (IH.out a ha (by omega) _ f' (by exact HI.out.same OK.out KOK.out ST.out (grown_drew _ _))).mono ?_; rintro e w5 ⟨v5, f5, rfl, hI5, hf5, hx5, hg5⟩; obtain ⟨_, rfl⟩ := hI5.val a _ hf5; have e1 := hI5.cV; have e2 := hI5.cP; have hB5 := HBk.out.drew.grown hg5 (by simpa using hne); have d5 : w5.cell? ⟨ab, m, none⟩ = some (.bool false) := (by rw [hB5.cell, vals_at _ _ _ hml, if_neg (Nat.lt_irrefl _)]); have fr5 : w5.frozen? ⟨ab, m, none⟩ = false := hB5.free m))
        have HI6 : Hid (FI p ⟨bM, bV, bP, bF, mM, lo, 28, .func (.func 23) #[] #[.pointer (some ⟨bq, 0, none⟩)]⟩ (VB sk) (XB p bq) (w5.setCell ⟨ab, m, none⟩ (.bool (sk a))) f5) := hI5.set OK.out KOK.out ST.out hB5 hlo m (.bool (sk a))
        have HB6 : Hid (Blk (w5.setCell ⟨ab, m, none⟩ (.bool (sk a))) ab 4 (vals (p.aft i).length (fun j => if j < m + 1 then .bool (sk ((p.aft i).getD j 0)) else .bool false))) := by
          have h1 := hB5.set m (.bool (sk a))
          rw [vals_set] at h1
          rw [vals_congr (g' := fun j => if j = m then .bool (sk a) else if j < m then .bool (sk ((p.aft i).getD j 0)) else .bool false)]
          · exact h1
          · intro j hj
            by_cases e : j = m
            · subst e; rw [if_pos (by omega), if_pos rfl, hg0]
            · rw [if_neg e]
              by_cases e2 : j < m
              · rw [if_pos (by omega), if_pos e2]
              · rw [if_neg (by omega), if_neg e2]
        have HG6 : Hid (w.grownBy (w5.setCell ⟨ab, m, none⟩ (.bool (sk a))) (some mM)) := ((HG.out.andThen (grown_drew _ none) (fun j hj => by cases hj)).andThen hg5 (fun j hj => Or.inr hj)).andThen (grown_set w5 ⟨ab, m, none⟩ (.bool (sk a))) (fun j hj => Or.inl (by cases hj; exact Nat.le_of_eq hab))
        have HX6 : Hid (∀ j, (f j).isSome = true → (f5 j).isSome = true) := fun j hj => hx5 j (HX.out j hj)
        clear hI5 hf5 hx5 hg5 hB5 d5 fr5 e1 e2 HI HBk HG HX cV cP d1'
        generalize w5.setCell ⟨ab, m, none⟩ (.bool (sk a)) = w6 at HI6 HB6 HG6 ⊢
        go_wp2
        go_roundg (gk - 1)
        case measure => omega
        case rel => exact ⟨m + 1, f5, by omega, by omega, by go_num, HI6.out, HX6.out, HB6.out, HG6.out⟩
      · have hmi : ¬ (m : Int) < ((p.aft i).length : Int) := by omega
        obtain rfl : m = (p.aft i).length := by omega
        have c11 : wr.cell? ⟨p.pS, i * 12 + 11, none⟩ = some (.slice none 0 0) := (hI.pat.step i hi).al
        have hmk := fun W => run_make_row' (P := Yba.prog) 37 4 (.bool false) 1 Yba.underlying37 info4 rfl .i64 .i64 0 (by omega) (by omega) W
        simp only [Int.natCast_zero] at hmk
        have hpSr : p.pS < wr.heap.size := Nat.lt_of_lt_of_le hpS (by rw [hab]; exact Nat.le_of_lt HBk.out.lt)
        clear hI hgk hmi hml hm
        go_wp2
        refine wp_loop_rounds 1 ?_
        rw [rounds_succ]
        go_wp2
        have HI7 : Hid (FI p ⟨bM, bV, bP, bF, mM, lo, 28, .func (.func 23) #[] #[.pointer (some ⟨bq, 0, none⟩)]⟩ (VB sk) (XB p bq) (wr.alloc (.cells (madeCells #[.bool false] 0) 4)) f') := HI.out.same OK.out KOK.out ST.out (World.grownBy_alloc _ _ none)
        have HB7 : Hid (Blk (wr.alloc (.cells (madeCells #[.bool false] 0) 4)) ab 4 (vals (p.aft i).length (fun j => if j < (p.aft i).length then .bool (sk ((p.aft i).getD j 0)) else .bool false))) := HBk.out.alloc _
        have HG7 : Hid (w.grownBy (wr.alloc (.cells (madeCells #[.bool false] 0) 4)) (some mM)) := HG.out.andThen (World.grownBy_alloc _ _ none) (fun j hj => by cases hj)
        clear HI HBk HG c11 hmk hpSr
        generalize wr.alloc (.cells (madeCells #[.bool false] 0) 4) = w7 at HI7 HB7 HG7 ⊢
        generalize wr.heap.size = lb
        have cM : w7.cell? ⟨bM, 0, none⟩ = some (.map (some mM)) := HI7.out.cM
        have c0 : w7.cell? ⟨p.pS, i * 12, none⟩ = some (.string (idB i)) := (HI7.out.pat.step i hi).id
        have cF : w7.cell? ⟨bF, 0, none⟩ = some (.func (.func 23) #[] #[.pointer (some ⟨bq, 0, none⟩)]) := HI7.out.cF
        have HA : Hid (∀ j, (hj : j < (p.aft i).length) → some (⟨ab, 0, none⟩ : Addr) = some ⟨ab, 0, none⟩ ∧ ab < w7.heap.size ∧ w7.cell? ⟨ab, j, none⟩ = some (.bool (sk (p.aft i)[j]))) := by
          intro j hj
          refine ⟨rfl, HB7.out.lt, ?_⟩
          rw [HB7.out.cell, vals_at _ _ _ hj, if_pos hj]
          simp [List.getD, List.getElem?_eq_getElem hj]
        have hbqs : bq < w7.heap.size := by have h1 : lo ≤ w7.heap.size := HI7.out.lo; omega
        go_region_held3 (fun w' => w'.cell? ⟨bM, 0, none⟩ = some (.map (some mM)) ∧ w'.cell? ⟨p.pS, i * 12, none⟩ = some (.string (idB i)) ∧ w'.cell? ⟨bF, 0, none⟩ = some (.func (.func 23) #[] #[.pointer (some ⟨bq, 0, none⟩)]))
          (first | go_keep | (refine ⟨?_, ?_, ?_⟩ <;> assumption))
          (first
            | (go_at_call 23; refine (skip1_any p OK.out sk i hi _ _ ab bq _ _ (by exact HI7.out.pat.below OK.out (Below.refl _ _).drew (Nat.le_refl _)) (by exact HI7.out.ex) (by exact hbqs) (by exact HA.out)).mono ?_; rintro e w8 ⟨rfl, hb8⟩; have hg8 : w7.grownBy w8 none := (grown_drew w7 none).andThen (grown_below hb8 (Nat.le_refl _) none) (fun j hj => (by cases hj)); have hI8 := HI7.out.same OK.out KOK.out ST.out hg8; have e1 := hI8.cM; have e2 := (hI8.pat.step i hi).id; have e3 := hI8.cF; obtain ⟨w9, hup, hM9, hg9, _⟩ := hI8.map.update Yba.underlying61 (show i < 48 by omega) (.bool (skF p sk i)); have e4 := hg9.cell e1 (by simpa using KOK.out.hM); have e5 := hg9.cell e2 (by simp; omega); have e6 := hg9.cell e3 (by simpa using KOK.out.hF)))
        have HI9 : Hid (FI p ⟨bM, bV, bP, bF, mM, lo, 28, .func (.func 23) #[] #[.pointer (some ⟨bq, 0, none⟩)]⟩ (VB sk) (XB p bq) w9 (updF f' i (.bool (skF p sk i)))) := hI8.grown OK.out KOK.out ST.out hg9 hM9 (fun j v hj => by
          by_cases e : j = i
          · subst e
            simp only [updF, if_pos, Option.some.injEq] at hj
            exact ⟨hi, by rw [← hj]; exact (congrArg Value.bool (HSk.out _ hi)).symm⟩
          · simp only [updF, if_neg e] at hj
            obtain ⟨a1, a2⟩ := hI8.val j v hj
            exact ⟨a1, ST.out.v _ _ _ _ a2 hg9⟩)
        have HG9 : Hid (w.grownBy w9 (some mM)) := (HG7.out.andThen hg8 (fun j hj => by cases hj)).andThen hg9 (fun j hj => Or.inr hj)
        have hlk := (MapIs.drew hM9).look Yba.underlying61 (zero4 _) (i := i) (by omega)
        simp only [updF, if_pos, Option.getD_some] at hlk
        clear hI8 hg8 hb8 hup hM9 hg9 e1 e2 e3 HI7 HB7 HG7 HA cM c0 cF
        go_wp2
        go_region
        go_wp2
        go_ret
        exact ⟨_, updF f' i (.bool (skF p sk i)), rfl, HI9.out.same OK.out KOK.out ST.out (grown_drew _ _), by simp [updF], fun j hj => by
          by_cases e : j = i
          · simp [updF, e]
          · simpa [updF, e] using HX.out j hj, HG9.out.andThen (grown_drew _ none) (fun j hj => by cases hj)⟩

end Go.Proofs.Ybulkcnke
