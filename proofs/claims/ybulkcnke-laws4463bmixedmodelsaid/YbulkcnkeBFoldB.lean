/-
  fold[bool], skippable.
-/
import Derived.Test.YbulkcnkeBVisB
import Derived.Laws.EntriesVeiled
namespace Go.Proofs.Ybulkcnke
open Go.RowKit Go.Maps
set_option linter.unusedVariables false
attribute [local go_sem ↓] Go.wp_at_zero Go.wp_at_succ

/-- the world in which 'fold' stores its visitor -/
def foldW (w : World) (pv fv : Value) (T2 T3 T4 : TypeId) : World := ((((w.alloc (.cells #[pv] 24)).alloc (.cells #[fv] T2)).alloc (.map #[] 0)).alloc (.cells #[.map (some (w.heap.size + 1 + 1))] T3)).alloc (.cells #[.nilFunc] T4)

structure FoldW (w w4 : World) (pv fv : Value) (T2 T3 T4 : TypeId) (H : Nat) : Prop where
  p : Blk w4 H 24 #[pv]
  f : Blk w4 (H + 1) T2 #[fv]
  m : MapIs w4 (H + 1 + 1) (fun _ => none)
  b : Blk w4 (H + 1 + 1 + 1) T3 #[.map (some (H + 1 + 1))]
  v : Blk w4 (H + 1 + 1 + 1 + 1) T4 #[.nilFunc]
  bl : Below H w w4
  sz : w4.heap.size = H + 5

theorem foldW_is (w : World) (pv fv : Value) (T2 T3 T4 : TypeId) : FoldW w (foldW w pv fv T2 T3 T4) pv fv T2 T3 T4 w.heap.size := by
  unfold foldW
  refine ⟨?_, ?_, ?_, ?_, ?_, ?_, by simp⟩
  · exact ((((Blk.new w _ _).alloc _).alloc _).alloc _).alloc _
  · have h := Blk.new (w.alloc (.cells #[pv] 24)) #[fv] T2
    rw [World.size_alloc] at h
    exact ((h.alloc _).alloc _).alloc _
  · have h := MapIs.made ((w.alloc (.cells #[pv] 24)).alloc (.cells #[fv] T2))
    rw [World.size_alloc, World.size_alloc] at h
    exact (h.alloc _).alloc _
  · have h := Blk.new (((w.alloc (.cells #[pv] 24)).alloc (.cells #[fv] T2)).alloc (.map #[] 0)) #[.map (some (w.heap.size + 1 + 1))] T3
    rw [World.size_alloc, World.size_alloc, World.size_alloc] at h
    exact h.alloc _
  · have h := Blk.new ((((w.alloc (.cells #[pv] 24)).alloc (.cells #[fv] T2)).alloc (.map #[] 0)).alloc (.cells #[.map (some (w.heap.size + 1 + 1))] T3)) #[.nilFunc] T4
    rw [World.size_alloc, World.size_alloc, World.size_alloc, World.size_alloc] at h
    exact h
  · exact (((((Below.refl _ _).alloc (Nat.le_refl _) _).alloc (by simp) _).alloc (by simp; omega) _).alloc (by simp; omega) _).alloc (by simp; omega) _

/-- .. and behind the store -/
theorem FoldW.fi {w w4 : World} {T2 T3 T4 : TypeId} {H : Nat} {p : Pr} {fv : Value} (h : FoldW w w4 (.pointer (some ⟨p.pP, 0, none⟩)) fv T2 T3 T4 H) (ok : p.Ok) (hw : PAt p w) (hH : w.heap.size = H) (fn : Nat) {V : Nat → Value → World → Prop} {X : World → Prop}
    (hx : X (w4.setCell ⟨H + 1 + 1 + 1 + 1, 0, none⟩ (.func (.func fn) #[] #[.pointer (some ⟨H + 1 + 1 + 1, 0, none⟩), .pointer (some ⟨H + 1 + 1 + 1 + 1, 0, none⟩), .pointer (some ⟨H, 0, none⟩), .pointer (some ⟨H + 1, 0, none⟩)]))) :
    FI p ⟨H + 1 + 1 + 1, H + 1 + 1 + 1 + 1, H, H + 1, H + 1 + 1, H + 5, fn, fv⟩ V X
      (w4.setCell ⟨H + 1 + 1 + 1 + 1, 0, none⟩ (.func (.func fn) #[] #[.pointer (some ⟨H + 1 + 1 + 1, 0, none⟩), .pointer (some ⟨H + 1 + 1 + 1 + 1, 0, none⟩), .pointer (some ⟨H, 0, none⟩), .pointer (some ⟨H + 1, 0, none⟩)])) (fun _ => none) := by
  have hsz := hw.sz
  have hb := h.bl.setCell (p := ⟨H + 1 + 1 + 1 + 1, 0, none⟩) (by show H ≤ H + 1 + 1 + 1 + 1; omega) (.func (.func fn) #[] #[.pointer (some ⟨H + 1 + 1 + 1, 0, none⟩), .pointer (some ⟨H + 1 + 1 + 1 + 1, 0, none⟩), .pointer (some ⟨H, 0, none⟩), .pointer (some ⟨H + 1, 0, none⟩)])
  refine ⟨hw.below ok hb (by omega), (h.b.other (by show H + 1 + 1 + 1 ≠ H + 1 + 1 + 1 + 1; omega) _).one, (h.v.set 0 _).one, (h.p.other (by show H ≠ H + 1 + 1 + 1 + 1; omega) _).one, (h.f.other (by show H + 1 ≠ H + 1 + 1 + 1 + 1; omega) _).one, h.m.other (by show H + 1 + 1 ≠ H + 1 + 1 + 1 + 1; omega) _, fun j v hj => (by cases hj), hx, by rw [World.size_setCell, h.sz]; exact Nat.le_refl _⟩

theorem foldK {p : Pr} {w : World} {H : Nat} (hw : PAt p w) (hH : w.heap.size = H) (fn : Nat) (fv : Value) : Fk.Ok p ⟨H + 1 + 1 + 1, H + 1 + 1 + 1 + 1, H, H + 1, H + 1 + 1, H + 5, fn, fv⟩ := by
  have := hw.sz
  exact ⟨by show p.base ≤ H + 1 + 1; omega, by show H + 1 + 1 + 1 ≠ H + 1 + 1; omega, by show H + 1 + 1 + 1 + 1 ≠ H + 1 + 1; omega, by show H ≠ H + 1 + 1; omega, by show H + 1 ≠ H + 1 + 1; omega, by show H + 1 + 1 + 1 < H + 5; omega, by show H + 1 + 1 + 1 + 1 < H + 5; omega, by show H < H + 5; omega, by show H + 1 < H + 5; omega, by show H + 1 + 1 < H + 5; omega⟩

theorem full_map {p : Pr} {k : Fk} {V : Nat → Value → World → Prop} {X : World → Prop} {w : World} {f : Nat → Option Value} {g : Nat → Value} (h : FI p k V X w f) (hall : ∀ j, j < p.n → (f j).isSome = true) (hg : ∀ j v, j < p.n → V j v w → v = g j) :
    f = fun j => if j < p.n then some (g j) else none := by
  funext j
  by_cases hj : j < p.n
  · obtain ⟨v, hv⟩ := Option.isSome_iff_exists.1 (hall j hj)
    rw [if_pos hj, hv, hg j v hj (h.val j v hv).2]
  · rw [if_neg hj]
    cases hf : f j with
    | none => rfl
    | some v => exact absurd (h.val j v hf).1 hj

set_option maxRecDepth 100000 in
set_option maxHeartbeats 3200000 in
theorem foldB (p : Pr) (ok : p.Ok) (bq : Nat) (sk : Nat → Bool) (hsk : ∀ i, i < p.n → sk i = skF p sk i) (w : World) (h : PAt p w) (hx : XB p bq w) (hbq : bq < w.heap.size) :
    Calls Yba.prog 22 #[.pointer (some ⟨p.pP, 0, none⟩), .func (.func 23) #[] #[.pointer (some ⟨bq, 0, none⟩)]] w fun e w' =>
      ∃ m, e = .returned (.map (some m)) ∧ w.heap.size ≤ m ∧ MapIs w' m (fun j => if j < p.n then some (.bool (sk j)) else none) ∧ Below w.heap.size w w' := by
  have hmm := @run_makeMap Yba.prog
  have c1 := h.steps
  have hpP : p.pP < w.heap.size := Nat.lt_of_lt_of_le ok.pP h.sz
  have hn := ok.n
  go_enter Yba.func22, Yba.ntmps22
  go_upto_region 3 with fail
  have hW := foldW_is w (.pointer (some ⟨p.pP, 0, none⟩)) (.func (.func 23) #[] #[.pointer (some ⟨bq, 0, none⟩)]) 80 61 83
  unfold foldW at hW
  generalize (((((w.alloc (.cells #[.pointer (some ⟨p.pP, 0, none⟩)] 24)).alloc (.cells #[.func (.func 23) #[] #[.pointer (some ⟨bq, 0, none⟩)]] 80)).alloc (.map #[] 0)).alloc (.cells #[.map (some (w.heap.size + 1 + 1))] 61)).alloc (.cells #[.nilFunc] 83)) = w4 at hW ⊢
  generalize hH : w.heap.size = H at hW hpP hbq ⊢
  have d1 : w4.cell? ⟨H + 1 + 1 + 1 + 1, 0, none⟩ = some .nilFunc := hW.v.one
  have d2 : w4.frozen? ⟨H + 1 + 1 + 1 + 1, 0, none⟩ = false := hW.v.free 0
  have HW : Hid (FoldW w w4 (.pointer (some ⟨p.pP, 0, none⟩)) (.func (.func 23) #[] #[.pointer (some ⟨bq, 0, none⟩)]) 80 61 83 H) := hW
  have HP : Hid (PAt p w) := h
  have HX : Hid (XB p bq w) := hx
  have OK : Hid p.Ok := ok
  have HSk : Hid (∀ i, i < p.n → sk i = skF p sk i) := hsk
  clear hW h hx ok hsk hmm c1
  go_upto_region 4 with fail
  have HI : Hid _ := HW.out.fi OK.out HP.out hH 28 (V := VB sk) (X := XB p bq) ((grown_set w4 ⟨H + 1 + 1 + 1 + 1, 0, none⟩ _).cell ((HW.out.bl.cell (p := ⟨bq, 0, none⟩) hbq).trans HX.out) (by simp; omega))
  have HB : Hid (Below H w (w4.setCell ⟨H + 1 + 1 + 1 + 1, 0, none⟩ (.func (.func 28) #[] #[.pointer (some ⟨H + 1 + 1 + 1, 0, none⟩), .pointer (some ⟨H + 1 + 1 + 1 + 1, 0, none⟩), .pointer (some ⟨H, 0, none⟩), .pointer (some ⟨H + 1, 0, none⟩)]))) := HW.out.bl.setCell (by show H ≤ H + 1 + 1 + 1 + 1; omega) _
  have KOK : Hid _ := foldK HP.out hH 28 (.func (.func 23) #[] #[.pointer (some ⟨bq, 0, none⟩)])
  clear d1 d2 HW
  generalize w4.setCell ⟨H + 1 + 1 + 1 + 1, 0, none⟩ (.func (.func 28) #[] #[.pointer (some ⟨H + 1 + 1 + 1, 0, none⟩), .pointer (some ⟨H + 1 + 1 + 1 + 1, 0, none⟩), .pointer (some ⟨H, 0, none⟩), .pointer (some ⟨H + 1, 0, none⟩)]) = w5 at HI HB ⊢
  have c1 : w5.cell? ⟨p.pP, 1, none⟩ = some (.slice (some ⟨p.pS, 0, none⟩) p.n p.n) := HI.out.pat.steps
  have cP0 : w5.cell? ⟨H, 0, none⟩ = some (.pointer (some ⟨p.pP, 0, none⟩)) := HI.out.cP
  go_wp2
  clear c1 cP0
  go_loopg [15] p.n (fun gk x wr => ∃ (k : Nat) (f : Nat → Option Value), k ≤ p.n ∧ gk + k = p.n ∧ x = .int .i64 (k : Int) ∧ FI p ⟨H + 1 + 1 + 1, H + 1 + 1 + 1 + 1, H, H + 1, H + 1 + 1, H + 5, 28, .func (.func 23) #[] #[.pointer (some ⟨bq, 0, none⟩)]⟩ (VB sk) (XB p bq) wr f ∧ (∀ j, j < k → (f j).isSome = true) ∧ w5.grownBy wr (some (H + 1 + 1)))
  case atStart => exact ⟨0, _, Nat.zero_le _, rfl, rfl, HI.out, fun j hj => absurd hj (Nat.not_lt_zero _), grown_refl _ _⟩
  case round =>
    clear HI
    obtain ⟨k, f, hk, hgk, rfl, hI, hall, hG⟩ := hrel
    have HI : Hid (FI p ⟨H + 1 + 1 + 1, H + 1 + 1 + 1 + 1, H, H + 1, H + 1 + 1, H + 5, 28, .func (.func 23) #[] #[.pointer (some ⟨bq, 0, none⟩)]⟩ (VB sk) (XB p bq) wr f) := hI
    have HA : Hid (∀ j, j < k → (f j).isSome = true) := hall
    have HG : Hid (w5.grownBy wr (some (H + 1 + 1))) := hG
    clear hI hall hG
    by_cases hkl : k < p.n
    · have hki : (k : Int) < (p.n : Int) := by omega
      have hk0 : (0 : Int) ≤ (k : Int) := by omega
      have c1 : wr.cell? ⟨p.pP, 1, none⟩ = some (.slice (some ⟨p.pS, 0, none⟩) p.n p.n) := HI.out.pat.steps
      have cP : wr.cell? ⟨H, 0, none⟩ = some (.pointer (some ⟨p.pP, 0, none⟩)) := HI.out.cP
      have cV : wr.cell? ⟨H + 1 + 1 + 1 + 1, 0, none⟩ = some (.func (.func 28) #[] #[.pointer (some ⟨H + 1 + 1 + 1, 0, none⟩), .pointer (some ⟨H + 1 + 1 + 1 + 1, 0, none⟩), .pointer (some ⟨H, 0, none⟩), .pointer (some ⟨H + 1, 0, none⟩)]) := HI.out.cV
      have ST : Hid (Stay (VB sk) (XB p bq) (H + 1 + 1) (H + 5)) := stayB p sk bq _ _ (by omega) (by omega)
      go_wp2
      go_region_held3 (fun w' => w'.cell? ⟨p.pP, 1, none⟩ = some (.slice (some ⟨p.pS, 0, none⟩) p.n p.n) ∧ w'.cell? ⟨H, 0, none⟩ = some (.pointer (some ⟨p.pP, 0, none⟩)) ∧ w'.cell? ⟨H + 1 + 1 + 1 + 1, 0, none⟩ = some (.func (.func 28) #[] #[.pointer (some ⟨H + 1 + 1 + 1, 0, none⟩), .pointer (some ⟨H + 1 + 1 + 1 + 1, 0, none⟩), .pointer (some ⟨H, 0, none⟩), .pointer (some ⟨H + 1, 0, none⟩)]))
        (first | go_keep | (refine ⟨?_, ?_, ?_⟩ <;> assumption))
        (first
          | (go_at_call 28; refine (visitB p OK.out _ _ _ _ _ (H + 5) bq sk HSk.out KOK.out (by omega) (by omega) k hkl _ f (by exact HI.out.same OK.out KOK.out ST.out (grown_drew _ _))).mono ?_; rintro e w6 ⟨v6, f6, rfl, hI6, hf6, hx6, hg6⟩; obtain ⟨_, rfl⟩ := hI6.val k _ hf6; have e1 := hI6.pat.steps; have e2 := hI6.cP; have e3 := hI6.cV))
      have HI7 : Hid (FI p ⟨H + 1 + 1 + 1, H + 1 + 1 + 1 + 1, H, H + 1, H + 1 + 1, H + 5, 28, .func (.func 23) #[] #[.pointer (some ⟨bq, 0, none⟩)]⟩ (VB sk) (XB p bq) w6 f6) := hI6
      have HA7 : Hid (∀ j, j < k + 1 → (f6 j).isSome = true) := fun j hj => by
        by_cases e : j = k
        · subst e; rw [hf6]; rfl
        · exact hx6 j (HA.out j (by omega))
      have HG7 : Hid (w5.grownBy w6 (some (H + 1 + 1))) := (HG.out.andThen (grown_drew _ none) (fun j hj => by cases hj)).andThen hg6 (fun j hj => Or.inr hj)
      clear hI6 hf6 hx6 hg6 e1 e2 e3 HI HA HG c1 cP cV
      go_wp2
      go_roundg (gk - 1)
      case measure => omega
      case rel => exact ⟨k + 1, f6, by omega, by omega, by go_num, HI7.out, HA7.out, HG7.out⟩
    · have hki : ¬ (k : Int) < (p.n : Int) := by omega
      obtain rfl : k = p.n := by omega
      have cM : wr.cell? ⟨H + 1 + 1 + 1, 0, none⟩ = some (.map (some (H + 1 + 1))) := HI.out.cM
      go_wp2
      go_ret
      refine ⟨H + 1 + 1, rfl, by omega, ?_, ?_⟩
      · have := full_map (g := fun j => .bool (sk j)) HI.out HA.out (fun j v _ hv => hv)
        rw [← this]
        exact HI.out.map
      · exact HB.out.grown HG.out (by have := HB.out.size; omega) (fun x hx => by cases hx; omega)

set_option maxRecDepth 100000 in
set_option maxHeartbeats 3200000 in
theorem skippable_any (p : Pr) (ok : p.Ok) (sk : Nat → Bool) (hsk : ∀ i, i < p.n → sk i = skF p sk i) (w : World) (h : PAt p w) :
    Calls Yba.prog 16 #[.pointer (some ⟨p.pP, 0, none⟩)] w fun e w' =>
      ∃ m, e = .returned (.map (some m)) ∧ w.heap.size ≤ m ∧ MapIs w' m (fun j => if j < p.n then some (.bool (sk j)) else none) ∧ Below w.heap.size w w' := by
  have HP : Hid (PAt p w) := h
  have OK : Hid p.Ok := ok
  have HSk : Hid (∀ i, i < p.n → sk i = skF p sk i) := hsk
  clear h ok hsk
  go_enter Yba.func16, Yba.ntmps16
  go_wp2_with (go_at_call 22; refine (foldB p OK.out w.heap.size sk HSk.out _ (by exact HP.out.below OK.out ((Below.refl w.heap.size _).alloc (Nat.le_refl _) _) HP.out.sz) (by exact (Blk.new w _ _).one) (by simp)).mono ?_; rintro e w2 ⟨m, rfl, hm, hM, hb⟩)
  go_ret
  exact ⟨m, rfl, by simp at hm; omega, hM, ((Below.refl _ _).alloc (Nat.le_refl _) _).trans (hb.mono (by simp))⟩

end Go.Proofs.Ybulkcnke
