/-
  skippable's closure.
-/
import Derived.Test.YbulkcnkeBHold
namespace Go.Proofs.Ybulkcnke
open Go.RowKit Go.Maps
set_option linter.unusedVariables false

theorem below_undrew {w w3 : World} (h : Below w.drew.heap.size w.drew w3) : Below w.heap.size w w3 := ⟨h.os, h.tape, h.output, h.size, h.block⟩

/-- what the closure makes of a step -/
def skF (p : Pr) (sk : Nat → Bool) (i : Nat) : Bool := (p.aft i).any (fun a => decide (i ∈ p.thn a)) || (if p.jn i = 1 then (p.aft i).all sk else (p.aft i).any sk)

theorem take_any_succ {α : Type} (l : List α) (f : α → Bool) (k : Nat) (h : k < l.length) : (l.take (k + 1)).any f = ((l.take k).any f || f l[k]) := by
  rw [List.take_succ_eq_append_getElem h, List.any_append]; simp
theorem take_all_succ {α : Type} (l : List α) (f : α → Bool) (k : Nat) (h : k < l.length) : (l.take (k + 1)).all f = ((l.take k).all f && f l[k]) := by
  rw [List.take_succ_eq_append_getElem h, List.all_append]; simp

theorem jnB_any (j : Nat) : ((jnB j).toList == [97, 110, 121]) = decide (j = 1) := by
  rw [ByteArray.toList_eq]
  unfold jnB
  by_cases h0 : j = 0
  · subst h0; decide
  · by_cases h1 : j = 1
    · subst h1; decide
    · rw [if_neg h0, if_neg h1]; simp [h1]

set_option maxRecDepth 100000 in
set_option maxHeartbeats 1600000 in
theorem skip1_any (p : Pr) (ok : p.Ok) (sk : Nat → Bool) (i : Nat) (hi : i < p.n) (aa : Option Addr) (ac ab bp : Nat) (lv : Value) (w : World) (h : PAt p w) (hbp : w.cell? ⟨bp, 0, none⟩ = some (.pointer (some ⟨p.pP, 0, none⟩))) (hbs : bp < w.heap.size)
    (hA : ∀ j, (hj : j < (p.aft i).length) → aa = some ⟨ab, 0, none⟩ ∧ ab < w.heap.size ∧ w.cell? ⟨ab, j, none⟩ = some (.bool (sk (p.aft i)[j]))) :
    Calls Yba.prog 23 #[.pointer (some ⟨p.pS, i * 12, none⟩), .slice aa (p.aft i).length ac, lv, .pointer (some ⟨bp, 0, none⟩)] w fun e w' => e = .returned (.bool (skF p sk i)) ∧ Below w.heap.size w w' := by
  have HP : Hid (PAt p w) := h
  have OK : Hid p.Ok := ok
  have HA : Hid (∀ j, (hj : j < (p.aft i).length) → aa = some ⟨ab, 0, none⟩ ∧ ab < w.heap.size ∧ w.cell? ⟨ab, j, none⟩ = some (.bool (sk (p.aft i)[j]))) := hA
  have hn := ok.n
  have hL := ok.aftL i hi
  obtain ⟨v, c1, sa, sc, sb, rfl, hs⟩ := (h.step i hi).aft
  rw [ids_length] at c1
  have HS : Hid (∀ j, (h : j < (ids (p.aft i)).length) → sa = some ⟨sb, 0, none⟩ ∧ sb < p.base ∧ w.cell? ⟨sb, j, none⟩ = some (ids (p.aft i))[j]) := hs
  have hsz := h.sz
  have hpS : p.pS < w.heap.size := Nat.lt_of_lt_of_le ok.pS hsz
  clear h ok hA hs
  go_enter Yba.func23, Yba.ntmps23
  go_wp2
  go_loopg [8, 9, 17] (p.aft i).length (fun gk so ea x wr => Below w.heap.size w wr ∧ ∃ k : Nat, k ≤ (p.aft i).length ∧ gk + k = (p.aft i).length ∧ x = .int .i64 (k : Int) ∧ so = .bool (((p.aft i).take k).any sk) ∧ ea = .bool (((p.aft i).take k).all sk) ∧ ((p.aft i).take k).any (fun a => decide (i ∈ p.thn a)) = false)
  case atStart => exact ⟨Below.refl _ _, 0, Nat.zero_le _, rfl, rfl, by simp, by simp, by simp⟩
  case round =>
    obtain ⟨hB, k, hk, hgk, rfl, rfl, rfl, hno⟩ := hrel
    have HN : Hid (((p.aft i).take k).any (fun a => decide (i ∈ p.thn a)) = false) := hno
    have HB : Hid (Below w.heap.size w wr) := hB
    clear hno
    by_cases hkl : k < (p.aft i).length
    · have hki : (k : Int) < ((p.aft i).length : Int) := by omega
      obtain ⟨rfl, hsb, d1⟩ := HS.out k (by rw [ids_length]; exact hkl)
      rw [ids_at _ _ hkl] at d1
      obtain ⟨rfl, hab, d2⟩ := HA.out k hkl
      have ha : (p.aft i)[k] < i := OK.out.aft i hi _ (List.getElem_mem hkl)
      have d1' : wr.cell? ⟨sb, k, none⟩ = some (.string (idB (p.aft i)[k])) := (hB.cell (p := ⟨sb, k, none⟩) (Nat.lt_of_lt_of_le hsb hsz)).trans d1
      have d2' : wr.cell? ⟨ab, k, none⟩ = some (.bool (sk (p.aft i)[k])) := (hB.cell (p := ⟨ab, k, none⟩) hab).trans d2
      have cb : wr.cell? ⟨bp, 0, none⟩ = some (.pointer (some ⟨p.pP, 0, none⟩)) := (hB.cell (p := ⟨bp, 0, none⟩) hbs).trans hbp
      have c0 : wr.cell? ⟨p.pS, i * 12, none⟩ = some (.string (idB i)) := (hB.cell (p := ⟨p.pS, i * 12, none⟩) hpS).trans (HP.out.step i hi).id
      have HPr : Hid (PAt p wr) := HP.out.below OK.out hB hsz
      have hszr := hB.size
      clear d1 d2 hB
      have hany := take_any_succ (p.aft i) sk k hkl
      have hall := take_all_succ (p.aft i) sk k hkl
      have hbr := take_any_succ (p.aft i) (fun a => decide (i ∈ p.thn a)) k hkl
      have HAny : Hid (_ = _) := hany
      have HAll : Hid (_ = _) := hall
      have HBr : Hid (_ = _) := hbr
      clear hany hall hbr
      generalize hak : (p.aft i)[k] = a at ha d1' d2' HAny HAll HBr
      generalize ((p.aft i).take k).any sk = x1 at HAny ⊢
      generalize ((p.aft i).take k).all sk = x2 at HAll ⊢
      by_cases hin : i ∈ p.thn a
      · go_wp2
        go_region_held3 (fun w' => w'.cell? ⟨bp, 0, none⟩ = some (.pointer (some ⟨p.pP, 0, none⟩)) ∧ w'.cell? ⟨p.pS, i * 12, none⟩ = some (.string (idB i)))
        (first | go_keep | (refine ⟨?_, ?_⟩ <;> assumption))
        (first
          | (go_at_call 24; refine (step_any p OK.out a (by omega) _ (by exact HPr.out.below OK.out (Below.refl _ _).drew (Nat.le_refl _))).mono ?_; rintro e w4 ⟨rfl, rfl⟩)
          | (go_at_call 25; refine (branchOf_any p OK.out a i (by omega) hi _ (by exact HPr.out.below OK.out (Below.refl _ _).drew (Nat.le_refl _))).mono ?_; rintro e w5 ⟨he, hb5⟩; rw [if_pos hin] at he; subst he; have e1 : w5.cell? ⟨bp, 0, none⟩ = some (.pointer (some ⟨p.pP, 0, none⟩)) := (hb5.cell (p := ⟨bp, 0, none⟩) (by exact Nat.lt_of_lt_of_le hbs hszr)).trans cb; have e2 : w5.cell? ⟨p.pS, i * 12, none⟩ = some (.string (idB i)) := (hb5.cell (p := ⟨p.pS, i * 12, none⟩) (by exact Nat.lt_of_lt_of_le hpS hszr)).trans c0))
        go_wp2
        go_ret
        refine ⟨?_, HB.out.trans ((below_undrew hb5).mono (by exact hszr))⟩
        have : (p.aft i).any (fun a => decide (i ∈ p.thn a)) = true := List.any_eq_true.2 ⟨a, by rw [← hak]; exact List.getElem_mem hkl, by simp [hin]⟩
        unfold skF
        rw [this]
        rfl
      · go_wp2
        go_region_held3 (fun w' => w'.cell? ⟨bp, 0, none⟩ = some (.pointer (some ⟨p.pP, 0, none⟩)) ∧ w'.cell? ⟨p.pS, i * 12, none⟩ = some (.string (idB i)))
        (first | go_keep | (refine ⟨?_, ?_⟩ <;> assumption))
        (first
          | (go_at_call 24; refine (step_any p OK.out a (by omega) _ (by exact HPr.out.below OK.out (Below.refl _ _).drew (Nat.le_refl _))).mono ?_; rintro e w4 ⟨rfl, rfl⟩)
          | (go_at_call 25; refine (branchOf_any p OK.out a i (by omega) hi _ (by exact HPr.out.below OK.out (Below.refl _ _).drew (Nat.le_refl _))).mono ?_; rintro e w5 ⟨he, hb5⟩; rw [if_neg hin] at he; subst he; have e1 : w5.cell? ⟨bp, 0, none⟩ = some (.pointer (some ⟨p.pP, 0, none⟩)) := (hb5.cell (p := ⟨bp, 0, none⟩) (by exact Nat.lt_of_lt_of_le hbs hszr)).trans cb; have e2 : w5.cell? ⟨p.pS, i * 12, none⟩ = some (.string (idB i)) := (hb5.cell (p := ⟨p.pS, i * 12, none⟩) (by exact Nat.lt_of_lt_of_le hpS hszr)).trans c0))
        have d2'' : w5.cell? ⟨ab, k, none⟩ = some (.bool (sk a)) := ((below_undrew hb5).cell (p := ⟨ab, k, none⟩) (by exact Nat.lt_of_lt_of_le hab hszr)).trans d2'
        have HB5 : Hid (Below w.heap.size w w5) := HB.out.trans ((below_undrew hb5).mono (by exact hszr))
        clear hb5 HB HPr e1 e2 cb c0 d1' d2'
        cases x1 <;> cases x2
        all_goals
          go_wp2
          go_roundg (gk - 1)
          case measure => omega
          case rel => exact ⟨HB5.out, k + 1, by omega, by omega, by go_num, by rw [HAny.out]; rfl, by rw [HAll.out]; rfl, by rw [HBr.out, HN.out]; simp [hin]⟩
    · have hki : ¬ (k : Int) < ((p.aft i).length : Int) := by omega
      obtain rfl : k = (p.aft i).length := by omega
      have c2 : wr.cell? ⟨p.pS, i * 12 + 2, none⟩ = some (.string (jnB (p.jn i))) := (hB.cell (p := ⟨p.pS, i * 12 + 2, none⟩) hpS).trans (HP.out.step i hi).join
      rw [List.take_length] at HN
      simp only [List.take_length]
      clear hB
      by_cases hj : p.jn i = 1
      · have hd : ((jnB (p.jn i)).toList == [97, 110, 121]) = true := by rw [jnB_any, hj]; rfl
        have HJ : Hid (p.jn i = 1) := hj
        clear hj
        go_wp2
        go_ret
        refine ⟨?_, HB.out⟩
        unfold skF
        rw [HN.out, if_pos HJ.out]
        rfl
      · have hd : ((jnB (p.jn i)).toList == [97, 110, 121]) = false := by rw [jnB_any]; simp [hj]
        go_wp2
        go_ret
        refine ⟨?_, HB.out⟩
        unfold skF
        rw [HN.out, if_neg hj]
        rfl

end Go.Proofs.Ybulkcnke
