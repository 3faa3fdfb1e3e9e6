/-
  fold[map[string]bool]'s visitor.
-/
import Derived.Test.YbulkcnkeBCom
namespace Go.Proofs.Ybulkcnke
open Go.RowKit Go.Maps
set_option linter.unusedVariables false
attribute [local go_sem ↓] Go.wp_at_zero Go.wp_at_succ

def VM (su : Nat → Nat → Bool) (mM : Nat) (j : Nat) (v : Value) (w : World) : Prop := ∃ m, v = .map (some m) ∧ MapIs w m (sF (su j)) ∧ m ≠ mM

theorem map_ne_blk {w : World} {m c : Nat} {f : Nat → Option Value} {t : TypeId} {C : Array Value} (h : MapIs w m f) (hb : Blk w c t C) : m ≠ c := by
  obtain ⟨D, ⟨es, clock, hm, _⟩, _⟩ := h
  intro e
  subst e
  unfold Blk at hb
  rw [hm] at hb
  simp at hb

theorem stayM (p : Pr) (sk : Nat → Bool) (su : Nat → Nat → Bool) (bS mS m lo : Nat) (h1 : bS ≠ m) (h2 : mS ≠ m) (l1 : bS < lo) (l2 : mS < lo) : Stay (VM su m) (XM p sk bS mS) m lo := by
  refine ⟨?_, ?_, ?_, ?_⟩
  · rintro j v w w' ⟨x, rfl, hx, hne⟩ hg
    exact ⟨x, rfl, hx.grown hg (by simpa using hne), hne⟩
  · rintro w w' ⟨a, b⟩ hg
    exact ⟨hg.cell a (by simpa using h1), b.grown hg (by simpa using h2)⟩
  · rintro j v w c t C i u ⟨x, rfl, hx, hne⟩ hb
    exact ⟨x, rfl, hx.other (map_ne_blk hx hb) u, hne⟩
  · rintro w c i u ⟨a, b⟩ hc
    exact ⟨(grown_set w ⟨c, i, none⟩ u).cell a (by simp; omega), b.other (by show mS ≠ c; omega) u⟩

set_option maxRecDepth 100000 in
set_option maxHeartbeats 3200000 in
theorem visitM (p : Pr) (ok : p.Ok) (bM bV bP bF mM lo bq mS : Nat) (sk : Nat → Bool) (su : Nat → Nat → Bool) (hsu : ∀ i, i < p.n → ∀ c, su i c = suF p sk su i c)
    (kok : Fk.Ok p ⟨bM, bV, bP, bF, mM, lo, 26, .func (.func 18) #[] #[.pointer (some ⟨bq, 0, none⟩)]⟩) (hbq : bq ≠ mM) (hbl : bq < lo) (hms : mS ≠ mM) (hml' : mS < lo) :
    ∀ i, i < p.n → ∀ w f, FI p ⟨bM, bV, bP, bF, mM, lo, 26, .func (.func 18) #[] #[.pointer (some ⟨bq, 0, none⟩)]⟩ (VM su mM) (XM p sk bq mS) w f →
      Calls Yba.prog 26 #[.pointer (some ⟨p.pS, i * 12, none⟩), .pointer (some ⟨bM, 0, none⟩), .pointer (some ⟨bV, 0, none⟩), .pointer (some ⟨bP, 0, none⟩), .pointer (some ⟨bF, 0, none⟩)] w fun e w' => VRes p ⟨bM, bV, bP, bF, mM, lo, 26, .func (.func 18) #[] #[.pointer (some ⟨bq, 0, none⟩)]⟩ (VM su mM) (XM p sk bq mS) f i w e w' := by
  intro i
  induction i using Nat.strongRecOn with
  | _ i ih =>
  intro hi w f h
  have hn := ok.n
  have st := stayM p sk su bq mS mM lo hbq hms hbl hml'
  have cM : w.cell? ⟨bM, 0, none⟩ = some (.map (some mM)) := h.cM
  have c0 := (h.pat.step i hi).id
  have H : Hid (FI p ⟨bM, bV, bP, bF, mM, lo, 26, .func (.func 18) #[] #[.pointer (some ⟨bq, 0, none⟩)]⟩ (VM su mM) (XM p sk bq mS) w f) := h
  have IH : Hid (∀ a, a < i → a < p.n → ∀ w f, FI p ⟨bM, bV, bP, bF, mM, lo, 26, .func (.func 18) #[] #[.pointer (some ⟨bq, 0, none⟩)]⟩ (VM su mM) (XM p sk bq mS) w f →
      Calls Yba.prog 26 #[.pointer (some ⟨p.pS, a * 12, none⟩), .pointer (some ⟨bM, 0, none⟩), .pointer (some ⟨bV, 0, none⟩), .pointer (some ⟨bP, 0, none⟩), .pointer (some ⟨bF, 0, none⟩)] w fun e w' => VRes p ⟨bM, bV, bP, bF, mM, lo, 26, .func (.func 18) #[] #[.pointer (some ⟨bq, 0, none⟩)]⟩ (VM su mM) (XM p sk bq mS) f a w e w') := ih
  have OK : Hid p.Ok := ok
  have KOK : Hid (Fk.Ok p ⟨bM, bV, bP, bF, mM, lo, 26, .func (.func 18) #[] #[.pointer (some ⟨bq, 0, none⟩)]⟩) := kok
  have HSu : Hid (∀ i, i < p.n → ∀ c, su i c = suF p sk su i c) := hsu
  have ST : Hid (Stay (VM su mM) (XM p sk bq mS) mM lo) := st
  clear ih ok kok hsu st
  cases hf : f i with
  | some v =>
    have hlk := (MapIs.drew h.map).look_ok Yba.underlying40 (zero61 _) (i := i) (by omega)
    rw [hf] at hlk
    simp only [Option.getD_some, Option.isSome_some] at hlk
    obtain ⟨_, m0, rfl, _⟩ := h.val i v hf
    clear h
    go_enter Yba.func26, Yba.ntmps26
    go_wp2
    go_region
    go_wp2
    go_ret
    exact ⟨_, f, rfl, H.out.same OK.out KOK.out ST.out (grown_drew _ _), hf, fun j hj => hj, grown_drew _ _⟩
  | none =>
    have hlk := (MapIs.drew h.map).look_ok Yba.underlying40 (zero61 _) (i := i) (by omega)
    rw [hf] at hlk
    simp only [Option.getD_none, Option.isSome_none] at hlk
    obtain ⟨v, c1, sa, sc, sb, rfl, hs⟩ := (h.pat.step i hi).aft
    rw [ids_length] at c1
    have HS : Hid (∀ j, (h : j < (ids (p.aft i)).length) → sa = some ⟨sb, 0, none⟩ ∧ sb < p.base ∧ w.cell? ⟨sb, j, none⟩ = some (ids (p.aft i))[j]) := hs
    have hL := OK.out.aftL i hi
    have hsz := h.pat.sz
    have hmM : mM < w.heap.size := h.map.lt
    have hpS : p.pS < w.heap.size := Nat.lt_of_lt_of_le OK.out.pS hsz
    have hpSb : p.pS < p.base := OK.out.pS
    have hba : p.base ≤ mM := KOK.out.base
    have HF : Hid (f i = none) := hf
    clear h hs hf
    have hmk := fun W => run_make_row' (P := Yba.prog) 66 61 (.map none) 8 Yba.underlying66 info61 rfl .i64 .i64 (p.aft i).length (by omega) (by omega) W
    go_enter Yba.func26, Yba.ntmps26
    go_wp2
    go_region
    go_wp2
    have HG0 : Hid (w.grownBy (w.alloc (.cells (madeCells #[.map none] (p.aft i).length) 61)).drew (some mM)) := ((World.grownBy_alloc w _ none).but _).andThen (grown_drew _ none) (fun j hj => by cases hj)
    have HI0 : Hid (FI p ⟨bM, bV, bP, bF, mM, lo, 26, .func (.func 18) #[] #[.pointer (some ⟨bq, 0, none⟩)]⟩ (VM su mM) (XM p sk bq mS) (w.alloc (.cells (madeCells #[.map none] (p.aft i).length) 61)).drew f) := (H.out.same OK.out KOK.out ST.out (World.grownBy_alloc _ _ none)).same OK.out KOK.out ST.out (grown_drew _ _)
    have HB0 : Hid (Blk (w.alloc (.cells (madeCells #[.map none] (p.aft i).length) 61)).drew w.heap.size 61 (vals (p.aft i).length (fun j => if j < 0 then .map (some 0) else .map none))) := by
      have := Blk.new w (madeCells #[.map none] (p.aft i).length) 61
      rw [made_vals] at this
      rw [made_vals]
      exact (this.drew : Blk _ _ _ _)
    have hlo : lo ≤ w.heap.size := H.out.lo
    clear hlk cM c0 c1 hmk
    generalize (w.alloc (.cells (madeCells #[.map none] (p.aft i).length) 61)).drew = w1 at HG0 HI0 HB0 ⊢
    generalize hab : w.heap.size = ab at HB0 hlo ⊢
    go_loopg [37] (p.aft i).length (fun gk x wr => ∃ (k : Nat) (f' : Nat → Option Value) (mv : Nat → Nat), k ≤ (p.aft i).length ∧ gk + k = (p.aft i).length ∧ x = .int .i64 (k : Int) ∧ FI p ⟨bM, bV, bP, bF, mM, lo, 26, .func (.func 18) #[] #[.pointer (some ⟨bq, 0, none⟩)]⟩ (VM su mM) (XM p sk bq mS) wr f' ∧ (∀ j, (f j).isSome = true → (f' j).isSome = true) ∧
        Blk wr ab 61 (vals (p.aft i).length (fun j => if j < k then .map (some (mv j)) else .map none)) ∧ (∀ j, j < k → MapIs wr (mv j) (sF (su ((p.aft i).getD j 0))) ∧ mv j ≠ mM) ∧ w.grownBy wr (some mM))
    case atStart => exact ⟨0, f, fun _ => 0, Nat.zero_le _, rfl, rfl, HI0.out, fun j hj => hj, HB0.out, fun j hj => absurd hj (Nat.not_lt_zero _), HG0.out⟩
    case round =>
      clear HG0 HI0 HB0
      obtain ⟨m, f', mv, hm, hgk, rfl, hI, hext, hBk, hMv, hG⟩ := hrel
      have HI : Hid (FI p ⟨bM, bV, bP, bF, mM, lo, 26, .func (.func 18) #[] #[.pointer (some ⟨bq, 0, none⟩)]⟩ (VM su mM) (XM p sk bq mS) wr f') := hI
      have HX : Hid (∀ j, (f j).isSome = true → (f' j).isSome = true) := hext
      have HBk : Hid (Blk wr ab 61 (vals (p.aft i).length (fun j => if j < m then .map (some (mv j)) else .map none))) := hBk
      have HMv : Hid (∀ j, j < m → MapIs wr (mv j) (sF (su ((p.aft i).getD j 0))) ∧ mv j ≠ mM) := hMv
      have HG : Hid (w.grownBy wr (some mM)) := hG
      have hne : ab ≠ mM := by omega
      have n1 : ¬ bV = ab := by have h1 : bV < lo := KOK.out.lV; omega
      have n2 : ¬ bP = ab := by have h1 : bP < lo := KOK.out.lP; omega
      have n3 : ¬ ab = bV := fun e => n1 e.symm
      have n4 : ¬ ab = bP := fun e => n2 e.symm
      clear hext hBk hG hMv
      by_cases hml : m < (p.aft i).length
      · have hmi : (m : Int) < ((p.aft i).length : Int) := by omega
        obtain ⟨rfl, hsb, d1⟩ := HS.out m (by rw [ids_length]; exact hml)
        rw [ids_at _ _ hml] at d1
        have ha : (p.aft i)[m] < i := OK.out.aft i hi _ (List.getElem_mem hml)
        have d1' : wr.cell? ⟨sb, m, none⟩ = some (.string (idB (p.aft i)[m])) := HG.out.cell d1 (by simp; omega)
        have cV : wr.cell? ⟨bV, 0, none⟩ = some (.func (.func 26) #[] #[.pointer (some ⟨bM, 0, none⟩), .pointer (some ⟨bV, 0, none⟩), .pointer (some ⟨bP, 0, none⟩), .pointer (some ⟨bF, 0, none⟩)]) := hI.cV
        have cP : wr.cell? ⟨bP, 0, none⟩ = some (.pointer (some ⟨p.pP, 0, none⟩)) := hI.cP
        have hg0 : (p.aft i).getD m 0 = (p.aft i)[m] := by simp [List.getD, List.getElem?_eq_getElem hml]
        clear d1 hI
        generalize (p.aft i)[m] = a at ha d1' hg0
        go_wp2
        go_region_held3 (fun w' => w'.cell? ⟨bV, 0, none⟩ = some (.func (.func 26) #[] #[.pointer (some ⟨bM, 0, none⟩), .pointer (some ⟨bV, 0, none⟩), .pointer (some ⟨bP, 0, none⟩), .pointer (some ⟨bF, 0, none⟩)]) ∧ w'.cell? ⟨bP, 0, none⟩ = some (.pointer (some ⟨p.pP, 0, none⟩)))
          (first | go_keep | (refine ⟨?_, ?_⟩ <;> assumption))
          (first
            | (go_at_call 24; refine (step_any p OK.out a (by omega) _ (by exact HI.out.pat.below OK.out (Below.refl _ _).drew (Nat.le_refl _))).mono ?_; rintro e w4 ⟨rfl, rfl⟩)
            | (go_at_call 26; refine (IH.out a ha (by omega) _ f' (by exact HI.out.same OK.out KOK.out ST.out (grown_drew _ _))).mono ?_; rintro e w5 ⟨v5, f5, rfl, hI5, hf5, hx5, hg5⟩; obtain ⟨_, m5, rfl, hm5, hn5⟩ := hI5.val a _ hf5; have e1 := hI5.cV; have e2 := hI5.cP; have hB5 := HBk.out.drew.grown hg5 (by simpa using hne); have d5 : w5.cell? ⟨ab, m, none⟩ = some (.map none) := (by rw [hB5.cell, vals_at _ _ _ hml, if_neg (Nat.lt_irrefl _)]); have fr5 : w5.frozen? ⟨ab, m, none⟩ = false := hB5.free m))
        have HI6 : Hid (FI p ⟨bM, bV, bP, bF, mM, lo, 26, .func (.func 18) #[] #[.pointer (some ⟨bq, 0, none⟩)]⟩ (VM su mM) (XM p sk bq mS) (w5.setCell ⟨ab, m, none⟩ (.map (some m5))) f5) := hI5.set OK.out KOK.out ST.out hB5 hlo m (.map (some m5))
        have HB6 : Hid (Blk (w5.setCell ⟨ab, m, none⟩ (.map (some m5))) ab 61 (vals (p.aft i).length (fun j => if j < m + 1 then .map (some (if j = m then m5 else mv j)) else .map none))) := by
          have h1 := hB5.set m (.map (some m5))
          rw [vals_set] at h1
          rw [vals_congr (g' := fun j => if j = m then .map (some m5) else if j < m then .map (some (mv j)) else .map none)]
          · exact h1
          · intro j hj
            have e3 : (j < m + 1) = (j = m ∨ j < m) := propext (by omega)
            by_cases e : j = m
            · subst e; simp
            · by_cases e2 : j < m
              · simp [e, e2, e3]
              · simp [e, e2, e3]
        have HG6 : Hid (w.grownBy (w5.setCell ⟨ab, m, none⟩ (.map (some m5))) (some mM)) := ((HG.out.andThen (grown_drew _ none) (fun j hj => by cases hj)).andThen hg5 (fun j hj => Or.inr hj)).andThen (grown_set w5 ⟨ab, m, none⟩ (.map (some m5))) (fun j hj => Or.inl (by cases hj; exact Nat.le_of_eq hab))
        have HMv6 : Hid (∀ j, j < m + 1 → MapIs (w5.setCell ⟨ab, m, none⟩ (.map (some m5))) (if j = m then m5 else mv j) (sF (su ((p.aft i).getD j 0))) ∧ (if j = m then m5 else mv j) ≠ mM) := fun j hj => by
          by_cases e : j = m
          · subst e
            rw [if_pos rfl, hg0]
            exact ⟨hm5.other (map_ne_blk hm5 hB5) _, hn5⟩
          · rw [if_neg e]
            obtain ⟨a1, a2⟩ := HMv.out j (by omega)
            have a3 := a1.drew.grown hg5 (by simpa using a2)
            exact ⟨a3.other (map_ne_blk a3 hB5) _, a2⟩
        have HX6 : Hid (∀ j, (f j).isSome = true → (f5 j).isSome = true) := fun j hj => hx5 j (HX.out j hj)
        clear hI5 hf5 hx5 hg5 hB5 d5 fr5 e1 e2 HI HBk HG HX cV cP d1' HMv hm5 hn5
        generalize w5.setCell ⟨ab, m, none⟩ (.map (some m5)) = w6 at HI6 HB6 HG6 HMv6 ⊢
        go_wp2
        go_roundg (gk - 1)
        case measure => omega
        case rel => exact ⟨m + 1, f5, fun j => if j = m then m5 else mv j, by omega, by omega, by go_num, HI6.out, HX6.out, HB6.out, HMv6.out, HG6.out⟩
      · have hmi : ¬ (m : Int) < ((p.aft i).length : Int) := by omega
        obtain rfl : m = (p.aft i).length := by omega
        have c11 : wr.cell? ⟨p.pS, i * 12 + 11, none⟩ = some (.slice none 0 0) := (hI.pat.step i hi).al
        have hmk := fun W => run_make_row' (P := Yba.prog) 66 61 (.map none) 8 Yba.underlying66 info61 rfl .i64 .i64 0 (by omega) (by omega) W
        simp only [Int.natCast_zero] at hmk
        have hpSr : p.pS < wr.heap.size := Nat.lt_of_lt_of_le hpS (by rw [hab]; exact Nat.le_of_lt HBk.out.lt)
        clear hI hgk hmi hml hm
        go_wp2
        refine wp_loop_rounds 1 ?_
        rw [rounds_succ]
        go_wp2
        have HI7 : Hid (FI p ⟨bM, bV, bP, bF, mM, lo, 26, .func (.func 18) #[] #[.pointer (some ⟨bq, 0, none⟩)]⟩ (VM su mM) (XM p sk bq mS) (wr.alloc (.cells (madeCells #[.map none] 0) 61)) f') := HI.out.same OK.out KOK.out ST.out (World.grownBy_alloc _ _ none)
        have HB7 : Hid (Blk (wr.alloc (.cells (madeCells #[.map none] 0) 61)) ab 61 (vals (p.aft i).length (fun j => if j < (p.aft i).length then .map (some (mv j)) else .map none))) := HBk.out.alloc _
        have HG7 : Hid (w.grownBy (wr.alloc (.cells (madeCells #[.map none] 0) 61)) (some mM)) := HG.out.andThen (World.grownBy_alloc _ _ none) (fun j hj => by cases hj)
        have HMv7 : Hid (∀ j, j < (p.aft i).length → MapIs (wr.alloc (.cells (madeCells #[.map none] 0) 61)) (mv j) (sF (su ((p.aft i).getD j 0)))) := fun j hj => (HMv.out j hj).1.alloc _
        clear HI HBk HG c11 hmk hpSr HMv
        generalize wr.alloc (.cells (madeCells #[.map none] 0) 61) = w7 at HI7 HB7 HG7 HMv7 ⊢
        generalize wr.heap.size = lb
        have cM : w7.cell? ⟨bM, 0, none⟩ = some (.map (some mM)) := HI7.out.cM
        have c0 : w7.cell? ⟨p.pS, i * 12, none⟩ = some (.string (idB i)) := (HI7.out.pat.step i hi).id
        have cF : w7.cell? ⟨bF, 0, none⟩ = some (.func (.func 18) #[] #[.pointer (some ⟨bq, 0, none⟩)]) := HI7.out.cF
        have HA : Hid (∀ j, (hj : j < (p.aft i).length) → some (⟨ab, 0, none⟩ : Addr) = some ⟨ab, 0, none⟩ ∧ ab < w7.heap.size ∧ ∃ m, w7.cell? ⟨ab, j, none⟩ = some (.map (some m)) ∧ MapIs w7 m (sF (su (p.aft i)[j]))) := by
          intro j hj
          refine ⟨rfl, HB7.out.lt, mv j, ?_, ?_⟩
          · rw [HB7.out.cell, vals_at _ _ _ hj, if_pos hj]
          · have := HMv7.out j hj
            simpa [List.getD, List.getElem?_eq_getElem hj] using this
        have hbqs : bq < w7.heap.size := by have h1 : lo ≤ w7.heap.size := HI7.out.lo; omega
        go_region_held3 (fun w' => w'.cell? ⟨bM, 0, none⟩ = some (.map (some mM)) ∧ w'.cell? ⟨p.pS, i * 12, none⟩ = some (.string (idB i)) ∧ w'.cell? ⟨bF, 0, none⟩ = some (.func (.func 18) #[] #[.pointer (some ⟨bq, 0, none⟩)]))
          (first | go_keep | (refine ⟨?_, ?_, ?_⟩ <;> assumption))
          (first
            | (go_at_call 18; refine (com1_any p OK.out sk su bq mS i hi _ _ ab _ _ (by exact HI7.out.pat.below OK.out (Below.refl _ _).drew (Nat.le_refl _)) (by exact HI7.out.ex) (by exact HA.out)).mono ?_; rintro e w8 ⟨m8, rfl, hm8, hM8, hb8⟩; have hg8 : w7.grownBy w8 none := (grown_drew w7 none).andThen (grown_below hb8 (Nat.le_refl _) none) (fun j hj => (by cases hj)); have hI8 := HI7.out.same OK.out KOK.out ST.out hg8; have e1 := hI8.cM; have e2 := (hI8.pat.step i hi).id; have e3 := hI8.cF; obtain ⟨w9, hup, hM9, hg9, _⟩ := hI8.map.update Yba.underlying40 (show i < 48 by omega) (.map (some m8)); have e4 := hg9.cell e1 (by simpa using KOK.out.hM); have e5 := hg9.cell e2 (by simp; omega); have e6 := hg9.cell e3 (by simpa using KOK.out.hF)))
        have hm8' : m8 ≠ mM := by have h1 : lo ≤ w7.heap.size := HI7.out.lo; have h2 : w7.heap.size ≤ m8 := hm8; have h3 : mM < lo := KOK.out.lm; omega
        have HI9 : Hid (FI p ⟨bM, bV, bP, bF, mM, lo, 26, .func (.func 18) #[] #[.pointer (some ⟨bq, 0, none⟩)]⟩ (VM su mM) (XM p sk bq mS) w9 (updF f' i (.map (some m8)))) := hI8.grown OK.out KOK.out ST.out hg9 hM9 (fun j v hj => by
          by_cases e : j = i
          · subst e
            simp only [updF, if_pos, Option.some.injEq] at hj
            exact ⟨hi, m8, hj.symm, (hM8.grown hg9 (by simpa using hm8')).sF (fun c _ => (HSu.out _ hi c).symm), hm8'⟩
          · simp only [updF, if_neg e] at hj
            obtain ⟨a1, a2⟩ := hI8.val j v hj
            exact ⟨a1, ST.out.v _ _ _ _ a2 hg9⟩)
        have HG9 : Hid (w.grownBy w9 (some mM)) := (HG7.out.andThen hg8 (fun j hj => by cases hj)).andThen hg9 (fun j hj => Or.inr hj)
        have hlk := (MapIs.drew hM9).look Yba.underlying40 (zero61 _) (i := i) (by omega)
        simp only [updF, if_pos, Option.getD_some] at hlk
        clear hI8 hg8 hb8 hup hM9 hg9 e1 e2 e3 HI7 HB7 HG7 HA cM c0 cF hM8 hm8 HMv7
        go_wp2
        go_region
        go_wp2
        go_ret
        exact ⟨_, updF f' i (.map (some m8)), rfl, HI9.out.same OK.out KOK.out ST.out (grown_drew _ _), by simp [updF], fun j hj => by
          by_cases e : j = i
          · simp [updF, e]
          · simpa [updF, e] using HX.out j hj, HG9.out.andThen (grown_drew _ none) (fun j hj => by cases hj)⟩

end Go.Proofs.Ybulkcnke
