/-
  fold[map[string]bool], committedAtStart.
-/
import Derived.Test.YbulkcnkeBVisM
namespace Go.Proofs.Ybulkcnke
open Go.RowKit Go.Maps
set_option linter.unusedVariables false
attribute [local go_sem ↓] Go.wp_at_zero Go.wp_at_succ

/-- what 'committedAtStart' hands back -/
def ComMap (p : Pr) (su : Nat → Nat → Bool) (m : Nat) (w : World) : Prop :=
  ∃ f, MapIs w m f ∧ (∀ j, j < p.n → ∃ x, f j = some (.map (some x)) ∧ MapIs w x (sF (su j))) ∧ (∀ j, p.n ≤ j → f j = none)

set_option maxRecDepth 100000 in
set_option maxHeartbeats 3200000 in
theorem foldM (p : Pr) (ok : p.Ok) (bq mS : Nat) (sk : Nat → Bool) (su : Nat → Nat → Bool) (hsu : ∀ i, i < p.n → ∀ c, su i c = suF p sk su i c) (w : World) (h : PAt p w) (hx : XM p sk bq mS w) (hbq : bq < w.heap.size) (hmS : mS < w.heap.size) :
    Calls Yba.prog 17 #[.pointer (some ⟨p.pP, 0, none⟩), .func (.func 18) #[] #[.pointer (some ⟨bq, 0, none⟩)]] w fun e w' =>
      ∃ m, e = .returned (.map (some m)) ∧ w.heap.size ≤ m ∧ ComMap p su m w' ∧ Below w.heap.size w w' := by
  have hmm := @run_makeMap Yba.prog
  have c1 := h.steps
  have hpP : p.pP < w.heap.size := Nat.lt_of_lt_of_le ok.pP h.sz
  have hn := ok.n
  go_enter Yba.func17, Yba.ntmps17
  go_upto_region 3 with fail
  have hW := foldW_is w (.pointer (some ⟨p.pP, 0, none⟩)) (.func (.func 18) #[] #[.pointer (some ⟨bq, 0, none⟩)]) 68 40 81
  unfold foldW at hW
  generalize (((((w.alloc (.cells #[.pointer (some ⟨p.pP, 0, none⟩)] 24)).alloc (.cells #[.func (.func 18) #[] #[.pointer (some ⟨bq, 0, none⟩)]] 68)).alloc (.map #[] 0)).alloc (.cells #[.map (some (w.heap.size + 1 + 1))] 40)).alloc (.cells #[.nilFunc] 81)) = w4 at hW ⊢
  generalize hH : w.heap.size = H at hW hpP hbq hmS ⊢
  have d1 : w4.cell? ⟨H + 1 + 1 + 1 + 1, 0, none⟩ = some .nilFunc := hW.v.one
  have d2 : w4.frozen? ⟨H + 1 + 1 + 1 + 1, 0, none⟩ = false := hW.v.free 0
  have HW : Hid (FoldW w w4 (.pointer (some ⟨p.pP, 0, none⟩)) (.func (.func 18) #[] #[.pointer (some ⟨bq, 0, none⟩)]) 68 40 81 H) := hW
  have HP : Hid (PAt p w) := h
  have HX : Hid (XM p sk bq mS w) := hx
  have OK : Hid p.Ok := ok
  have HSu : Hid (∀ i, i < p.n → ∀ c, su i c = suF p sk su i c) := hsu
  clear hW h hx ok hsu hmm c1
  go_upto_region 4 with fail
  have HI : Hid _ := HW.out.fi OK.out HP.out hH 26 (V := VM su (H + 1 + 1)) (X := XM p sk bq mS) ⟨(grown_set w4 ⟨H + 1 + 1 + 1 + 1, 0, none⟩ _).cell ((HW.out.bl.cell (p := ⟨bq, 0, none⟩) hbq).trans HX.out.1) (by simp; omega), (HX.out.2.below HW.out.bl hmS).other (by show mS ≠ H + 1 + 1 + 1 + 1; omega) _⟩
  have HB : Hid (Below H w (w4.setCell ⟨H + 1 + 1 + 1 + 1, 0, none⟩ (.func (.func 26) #[] #[.pointer (some ⟨H + 1 + 1 + 1, 0, none⟩), .pointer (some ⟨H + 1 + 1 + 1 + 1, 0, none⟩), .pointer (some ⟨H, 0, none⟩), .pointer (some ⟨H + 1, 0, none⟩)]))) := HW.out.bl.setCell (by show H ≤ H + 1 + 1 + 1 + 1; omega) _
  have KOK : Hid _ := foldK HP.out hH 26 (.func (.func 18) #[] #[.pointer (some ⟨bq, 0, none⟩)])
  clear d1 d2 HW
  generalize w4.setCell ⟨H + 1 + 1 + 1 + 1, 0, none⟩ (.func (.func 26) #[] #[.pointer (some ⟨H + 1 + 1 + 1, 0, none⟩), .pointer (some ⟨H + 1 + 1 + 1 + 1, 0, none⟩), .pointer (some ⟨H, 0, none⟩), .pointer (some ⟨H + 1, 0, none⟩)]) = w5 at HI HB ⊢
  have c1 : w5.cell? ⟨p.pP, 1, none⟩ = some (.slice (some ⟨p.pS, 0, none⟩) p.n p.n) := HI.out.pat.steps
  have cP0 : w5.cell? ⟨H, 0, none⟩ = some (.pointer (some ⟨p.pP, 0, none⟩)) := HI.out.cP
  go_wp2
  clear c1 cP0
  go_loopg [15] p.n (fun gk x wr => ∃ (k : Nat) (f : Nat → Option Value), k ≤ p.n ∧ gk + k = p.n ∧ x = .int .i64 (k : Int) ∧ FI p ⟨H + 1 + 1 + 1, H + 1 + 1 + 1 + 1, H, H + 1, H + 1 + 1, H + 5, 26, .func (.func 18) #[] #[.pointer (some ⟨bq, 0, none⟩)]⟩ (VM su (H + 1 + 1)) (XM p sk bq mS) wr f ∧ (∀ j, j < k → (f j).isSome = true) ∧ w5.grownBy wr (some (H + 1 + 1)))
  case atStart => exact ⟨0, _, Nat.zero_le _, rfl, rfl, HI.out, fun j hj => absurd hj (Nat.not_lt_zero _), grown_refl _ _⟩
  case round =>
    clear HI
    obtain ⟨k, f, hk, hgk, rfl, hI, hall, hG⟩ := hrel
    have HI : Hid (FI p ⟨H + 1 + 1 + 1, H + 1 + 1 + 1 + 1, H, H + 1, H + 1 + 1, H + 5, 26, .func (.func 18) #[] #[.pointer (some ⟨bq, 0, none⟩)]⟩ (VM su (H + 1 + 1)) (XM p sk bq mS) wr f) := hI
    have HA : Hid (∀ j, j < k → (f j).isSome = true) := hall
    have HG : Hid (w5.grownBy wr (some (H + 1 + 1))) := hG
    clear hI hall hG
    by_cases hkl : k < p.n
    · have hki : (k : Int) < (p.n : Int) := by omega
      have hk0 : (0 : Int) ≤ (k : Int) := by omega
      have c1 : wr.cell? ⟨p.pP, 1, none⟩ = some (.slice (some ⟨p.pS, 0, none⟩) p.n p.n) := HI.out.pat.steps
      have cP : wr.cell? ⟨H, 0, none⟩ = some (.pointer (some ⟨p.pP, 0, none⟩)) := HI.out.cP
      have cV : wr.cell? ⟨H + 1 + 1 + 1 + 1, 0, none⟩ = some (.func (.func 26) #[] #[.pointer (some ⟨H + 1 + 1 + 1, 0, none⟩), .pointer (some ⟨H + 1 + 1 + 1 + 1, 0, none⟩), .pointer (some ⟨H, 0, none⟩), .pointer (some ⟨H + 1, 0, none⟩)]) := HI.out.cV
      have ST : Hid (Stay (VM su (H + 1 + 1)) (XM p sk bq mS) (H + 1 + 1) (H + 5)) := stayM p sk su bq mS _ _ (by omega) (by omega) (by omega) (by omega)
      go_wp2
      go_region_held3 (fun w' => w'.cell? ⟨p.pP, 1, none⟩ = some (.slice (some ⟨p.pS, 0, none⟩) p.n p.n) ∧ w'.cell? ⟨H, 0, none⟩ = some (.pointer (some ⟨p.pP, 0, none⟩)) ∧ w'.cell? ⟨H + 1 + 1 + 1 + 1, 0, none⟩ = some (.func (.func 26) #[] #[.pointer (some ⟨H + 1 + 1 + 1, 0, none⟩), .pointer (some ⟨H + 1 + 1 + 1 + 1, 0, none⟩), .pointer (some ⟨H, 0, none⟩), .pointer (some ⟨H + 1, 0, none⟩)]))
        (first | go_keep | (refine ⟨?_, ?_, ?_⟩ <;> assumption))
        (first
          | (go_at_call 26; refine (visitM p OK.out _ _ _ _ _ (H + 5) bq mS sk su HSu.out KOK.out (by omega) (by omega) (by omega) (by omega) k hkl _ f (by exact HI.out.same OK.out KOK.out ST.out (grown_drew _ _))).mono ?_; rintro e w6 ⟨v6, f6, rfl, hI6, hf6, hx6, hg6⟩; obtain ⟨_, m6, rfl, _, _⟩ := hI6.val k _ hf6; have e1 := hI6.pat.steps; have e2 := hI6.cP; have e3 := hI6.cV))
      have HI7 : Hid (FI p ⟨H + 1 + 1 + 1, H + 1 + 1 + 1 + 1, H, H + 1, H + 1 + 1, H + 5, 26, .func (.func 18) #[] #[.pointer (some ⟨bq, 0, none⟩)]⟩ (VM su (H + 1 + 1)) (XM p sk bq mS) w6 f6) := hI6
      have HA7 : Hid (∀ j, j < k + 1 → (f6 j).isSome = true) := fun j hj => by
        by_cases e : j = k
        · subst e; rw [hf6]; rfl
        · exact hx6 j (HA.out j (by omega))
      have HG7 : Hid (w5.grownBy w6 (some (H + 1 + 1))) := (HG.out.andThen (grown_drew _ none) (fun j hj => by cases hj)).andThen hg6 (fun j hj => Or.inr hj)
      clear hI6 hf6 hx6 hg6 e1 e2 e3 HI HA HG c1 cP cV
      go_wp2
      go_roundg (gk - 1)
      case measure => omega
      case rel => exact ⟨k + 1, f6, by omega, by omega, by go_num, HI7.out, HA7.out, HG7.out⟩
    · have hki : ¬ (k : Int) < (p.n : Int) := by omega
      obtain rfl : k = p.n := by omega
      have cM : wr.cell? ⟨H + 1 + 1 + 1, 0, none⟩ = some (.map (some (H + 1 + 1))) := HI.out.cM
      go_wp2
      go_ret
      refine ⟨H + 1 + 1, rfl, by omega, ?_, ?_⟩
      · refine ⟨f, HI.out.map, fun j hj => ?_, fun j hj => ?_⟩
        · obtain ⟨v, hv⟩ := Option.isSome_iff_exists.1 (HA.out j hj)
          obtain ⟨_, x, rfl, hx, _⟩ := HI.out.val j v hv
          exact ⟨x, hv, hx⟩
        · cases hf : f j with
          | none => rfl
          | some v => exact absurd (HI.out.val j v hf).1 (by omega)
      · exact HB.out.grown HG.out (by have := HB.out.size; omega) (fun x hx => by cases hx; omega)

set_option maxRecDepth 100000 in
set_option maxHeartbeats 3200000 in
theorem committed_any (p : Pr) (ok : p.Ok) (sk : Nat → Bool) (hsk : ∀ i, i < p.n → sk i = skF p sk i) (su : Nat → Nat → Bool) (hsu : ∀ i, i < p.n → ∀ c, su i c = suF p sk su i c) (w : World) (h : PAt p w) :
    Calls Yba.prog 10 #[.pointer (some ⟨p.pP, 0, none⟩)] w fun e w' => ∃ m, e = .returned (.map (some m)) ∧ w.heap.size ≤ m ∧ ComMap p su m w' ∧ Below w.heap.size w w' := by
  have HP : Hid (PAt p w) := h
  have OK : Hid p.Ok := ok
  have HSk : Hid (∀ i, i < p.n → sk i = skF p sk i) := hsk
  have HSu : Hid (∀ i, i < p.n → ∀ c, su i c = suF p sk su i c) := hsu
  clear h ok hsk hsu
  go_enter Yba.func10, Yba.ntmps10
  go_wp2_with (first
    | (go_at_call 16; refine (skippable_any p OK.out sk HSk.out _ HP.out).mono ?_; rintro e w2 ⟨m, rfl, hm, hM, hb⟩
       have HM : Hid (MapIs w2 m (fun j => if j < p.n then some (.bool (sk j)) else none)) := hM
       have HB : Hid (Below w.heap.size w w2) := hb
       have hsz2 := hb.size
       clear hM hb)
    | (go_at_call 17; refine (foldM p OK.out w2.heap.size m sk su HSu.out _ (by exact HP.out.below OK.out (HB.out.alloc hsz2 _) HP.out.sz) (by exact ⟨(Blk.new w2 _ _).one, HM.out.alloc _⟩) (by simp) (by have := HM.out.lt; simp; omega)).mono ?_; rintro e w3 ⟨m3, rfl, hm3, hM3, hb3⟩))
  go_ret
  exact ⟨m3, rfl, by simp at hm3; omega, hM3, (HB.out.alloc hsz2 _).trans (hb3.mono (by simp; omega))⟩

end Go.Proofs.Ybulkcnke
