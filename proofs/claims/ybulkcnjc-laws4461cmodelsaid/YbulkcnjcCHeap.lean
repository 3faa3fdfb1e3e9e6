/-
  container/heap over indexHeap, by contracts.
-/
import Derived.Test.YbulkcnjcCHeapPl
import Derived.BigRegion
import Derived.BigQuiet
import Derived.Deep.QuietTactic
namespace Go.Proofs.Ybulkcnjc
open Go.RowKit Go.Deep Hp
set_option linter.unusedVariables false
attribute [local go_sem ↓] Go.wp_at_zero Go.wp_at_succ

theorem lv (hb : Nat) (x : Option Addr) (n c : Nat) (w : World) (h : w.cell? ⟨hb, 0, none⟩ = some (.slice x n c)) : (loadVar 56 ⟨hb, 0, none⟩).run Yba.prog w = .ok (.slice x n c) w := by
  go_simp
theorem wrapNil (a : Addr) (s : String) (w : World) : (Builtin.ssaWrapNilChk_ #[58] 58 #[.pointer (some a), strVal "", strVal s]).run Yba.prog w = .ok (.pointer (some a)) w := by
  rfl
theorem recv (hb : Nat) (x : Option Addr) (n c : Nat) (s : String) (w : World) (h : w.cell? ⟨hb, 0, none⟩ = some (.slice x n c)) : (receiverAt 58 (.val (.pointer (some ⟨hb, 0, none⟩))) false (some s)).run Yba.prog w = .ok (.slice x n c) w := by
  unfold receiverAt
  simp only [Sem.run_bind, run_underlying Yba.underlying58, Result.andThen_ok, Place.get, Sem.run_pure, wrapNil, asAddr, lv hb x n c w h]
theorem meth {name : String} {f : FuncId} (hm : (Yba.prog.info? 58).bind (fun i => (i.methods.find? (·.name == name)).map (fun m => (m.path.toList, m.func))) = some ([], some (f, false)))
    (hb : Nat) (x : Option Addr) (n c : Nat) (w : World) (h : w.cell? ⟨hb, 0, none⟩ = some (.slice x n c)) : (method 240 58 (.pointer (some ⟨hb, 0, none⟩)) name).run Yba.prog w = .ok (f, .slice x n c) w := by
  obtain ⟨i, hi, hm⟩ := Option.bind_eq_some_iff.1 hm
  obtain ⟨m, h1, h2⟩ := Option.map_eq_some_iff.1 hm
  simp only [Prod.mk.injEq] at h2
  obtain ⟨h2, h3⟩ := h2
  have hp : m.path.isEmpty = true := by
    have : m.path = #[] := by apply Array.toList_inj.1; rw [h2]
    rw [this]; rfl
  rw [show (240 : Nat) = 239 + 1 from rfl]
  unfold method
  have hpr : (program).run Yba.prog w = .ok Yba.prog w := rfl
  simp only [Sem.run_bind, typeInfo, hpr, hi, Sem.run_pure, Result.andThen_ok, h1, h2, h3, follow, hp, if_true, recv hb x n c _ w h]
theorem m_len (hb : Nat) (x : Option Addr) (n c : Nat) (w : World) (h : w.cell? ⟨hb, 0, none⟩ = some (.slice x n c)) : (method 240 58 (.pointer (some ⟨hb, 0, none⟩)) "Len").run Yba.prog w = .ok (85, .slice x n c) w := meth (by kernel_rfl) hb x n c w h
theorem m_less (hb : Nat) (x : Option Addr) (n c : Nat) (w : World) (h : w.cell? ⟨hb, 0, none⟩ = some (.slice x n c)) : (method 240 58 (.pointer (some ⟨hb, 0, none⟩)) "Less").run Yba.prog w = .ok (86, .slice x n c) w := meth (by kernel_rfl) hb x n c w h
theorem m_swap (hb : Nat) (x : Option Addr) (n c : Nat) (w : World) (h : w.cell? ⟨hb, 0, none⟩ = some (.slice x n c)) : (method 240 58 (.pointer (some ⟨hb, 0, none⟩)) "Swap").run Yba.prog w = .ok (87, .slice x n c) w := meth (by kernel_rfl) hb x n c w h
theorem m_pop (x : Value) (w : World) : (method 240 58 x "Pop").run Yba.prog w = .ok (88, x) w := by kernel_rfl
theorem m_push (x : Value) (w : World) : (method 240 58 x "Push").run Yba.prog w = .ok (89, x) w := by kernel_rfl

set_option maxRecDepth 100000 in
set_option maxHeartbeats 1600000 in
theorem less_any (g n cap i j : Nat) (x y : Int) (w : World) (hi : i < n) (hj : j < n) (hx : w.cell? ⟨g, i, none⟩ = some (.int .i32 x)) (hy : w.cell? ⟨g, j, none⟩ = some (.int .i32 y)) :
    Calls Yba.prog 86 #[.slice (some ⟨g, 0, none⟩) n cap, .int .i64 (i : Int), .int .i64 (j : Int)] w fun e w' => e = .returned (.bool (decide (x < y))) ∧ w' = w.drew := by
  have hii : (i : Int) < (n : Int) := by omega
  have hji : (j : Int) < (n : Int) := by omega
  go_enter Yba.func86, Yba.ntmps86
  go_wp2
  go_region
  go_wp2
  go_ret
  exact ⟨rfl, rfl⟩

set_option maxRecDepth 100000 in
set_option maxHeartbeats 1600000 in
theorem swap_any (g n cap i j : Nat) (x y : Int) (w : World) (hi : i < n) (hj : j < n) (hne : i ≠ j) (hx : w.cell? ⟨g, i, none⟩ = some (.int .i32 x)) (hy : w.cell? ⟨g, j, none⟩ = some (.int .i32 y)) (fx : w.frozen? ⟨g, i, none⟩ = false) (fy : w.frozen? ⟨g, j, none⟩ = false) :
    Calls Yba.prog 87 #[.slice (some ⟨g, 0, none⟩) n cap, .int .i64 (i : Int), .int .i64 (j : Int)] w fun e w' => e = .returned (.tuple #[]) ∧ w' = ((w.setCell ⟨g, i, none⟩ (.int .i32 y)).setCell ⟨g, j, none⟩ (.int .i32 x)).drew := by
  have hii : (i : Int) < (n : Int) := by omega
  have hji : (j : Int) < (n : Int) := by omega
  have hne' : j ≠ i := fun e => hne e.symm
  go_enter Yba.func87, Yba.ntmps87
  go_wp2
  go_region
  go_end0
  exact ⟨rfl, rfl⟩

set_option maxRecDepth 100000 in
set_option maxHeartbeats 1600000 in
theorem swap_one (g n cap i : Nat) (x : Int) (w : World) (hi : i < n) (hx : w.cell? ⟨g, i, none⟩ = some (.int .i32 x)) (fx : w.frozen? ⟨g, i, none⟩ = false) :
    Calls Yba.prog 87 #[.slice (some ⟨g, 0, none⟩) n cap, .int .i64 (i : Int), .int .i64 (i : Int)] w fun e w' => e = .returned (.tuple #[]) ∧ w' = ((w.setCell ⟨g, i, none⟩ (.int .i32 x)).setCell ⟨g, i, none⟩ (.int .i32 x)).drew := by
  have hii : (i : Int) < (n : Int) := by omega
  go_enter Yba.func87, Yba.ntmps87
  go_wp2
  go_region
  go_end0
  exact ⟨rfl, rfl⟩

/-- the heap, in memory -/
structure HM (hb base : Nat) (F : Nat → Nat) (n : Nat) (hv : Value) (w : World) : Prop where
  box : Blk w hb 56 #[hv]
  row : w.ownsRow base 21 1 hv n (row F n)
  lb : hb < base
  sz : base ≤ w.heap.size

/-- nothing but the box and the row has turned -/
structure HFr (hb : Nat) (hv : Value) (w w' : World) : Prop where
  os : w'.os = w.os
  tape : w'.tape = w.tape
  output : w'.output = w.output
  size : w.heap.size ≤ w'.heap.size
  block : ∀ b, b < w.heap.size → b ≠ hb → some b ≠ hv.ownBlock → w'.heap[b]? = w.heap[b]?

theorem HFr.refl (hb : Nat) (hv : Value) (w : World) : HFr hb hv w w := ⟨rfl, rfl, rfl, Nat.le_refl _, fun _ _ _ _ => rfl⟩
theorem HFr.drew {hb : Nat} {hv : Value} {w w' : World} (h : HFr hb hv w w') : HFr hb hv w w'.drew := ⟨h.os, h.tape, h.output, h.size, h.block⟩
theorem HFr.trans {hb : Nat} {hv : Value} {w w' w'' : World} (h : HFr hb hv w w') (k : HFr hb hv w' w'') : HFr hb hv w w'' :=
  ⟨k.os.trans h.os, k.tape.trans h.tape, k.output.trans h.output, Nat.le_trans h.size k.size, fun b hb h1 h2 => (k.block b (Nat.lt_of_lt_of_le hb h.size) h1 h2).trans (h.block b hb h1 h2)⟩
theorem HFr.setRow {hb g n cap : Nat} {w w' : World} (h : HFr hb (.slice (some ⟨g, 0, none⟩) n cap) w w') (i : Nat) (v : Value) : HFr hb (.slice (some ⟨g, 0, none⟩) n cap) w (w'.setCell ⟨g, i, none⟩ v) := by
  refine ⟨h.os, h.tape, h.output, by rw [World.size_setCell]; exact h.size, fun b hb h1 h2 => ?_⟩
  rw [Below.heap_setCell _ _ _ _ (fun e => h2 (by rw [e]; rfl))]
  exact h.block b hb h1 h2

theorem row_swp (F : Nat → Nat) (n i j : Nat) (hi : i < n) (hj : j < n) : ((row F n).set i (.int .i32 (F j : Int))).set j (.int .i32 (F i : Int)) = row (swp F i j) n := by
  apply List.ext_getElem?
  intro k
  have hs : (row F n).length = n := by simp [row, nodes]
  rw [List.getElem?_set, List.getElem?_set]
  simp only [List.length_set, hs]
  by_cases hk : k < n
  · rw [row_at (swp F i j) n k hk]
    by_cases e1 : j = k
    · subst e1
      rw [if_pos rfl, if_pos hk]
      by_cases e2 : j = i
      · subst e2; simp [swp]
      · simp [swp, e2]
    · rw [if_neg e1]
      by_cases e2 : i = k
      · subst e2
        rw [if_pos rfl, if_pos hk]
        simp [swp]
      · rw [if_neg e2, row_at F n k hk]
        simp [swp, show k ≠ i from fun e => e2 e.symm, show k ≠ j from fun e => e1 e.symm]
  · have h1 : (row F n)[k]? = none := List.getElem?_eq_none (by omega)
    have h2 : (row (swp F i j) n)[k]? = none := List.getElem?_eq_none (by simp [row, nodes]; omega)
    rw [h1, h2]
    by_cases e1 : j = k
    · omega
    · rw [if_neg e1]
      by_cases e2 : i = k
      · omega
      · rw [if_neg e2]

section
variable {hb base : Nat} {F : Nat → Nat} {n g cap : Nat} {w : World}

theorem HM.cell (h : HM hb base F n (.slice (some ⟨g, 0, none⟩) n cap) w) (i : Nat) (hi : i < n) : w.cell? ⟨g, i, none⟩ = some (.int .i32 (F i : Int)) := by
  rw [h.row.cellAt i (by omega), row_at F n i hi]
theorem HM.free (h : HM hb base F n (.slice (some ⟨g, 0, none⟩) n cap) w) (i : Nat) : w.frozen? ⟨g, i, none⟩ = false := h.row.frozenAt i
theorem HM.lt (h : HM hb base F n (.slice (some ⟨g, 0, none⟩) n cap) w) : base ≤ g ∧ g < w.heap.size := h.row.lt g rfl
theorem HM.drew {hv : Value} (h : HM hb base F n hv w) : HM hb base F n hv w.drew := ⟨h.box, h.row, h.lb, h.sz⟩

theorem HM.swap (h : HM hb base F n (.slice (some ⟨g, 0, none⟩) n cap) w) {i j : Nat} (hi : i < n) (hj : j < n) :
    HM hb base (swp F i j) n (.slice (some ⟨g, 0, none⟩) n cap) ((w.setCell ⟨g, i, none⟩ (.int .i32 (F j : Int))).setCell ⟨g, j, none⟩ (.int .i32 (F i : Int))) := by
  have hl := h.lt
  have h1 := h.lb
  refine ⟨(h.box.other (by show hb ≠ g; omega) _).other (by show hb ≠ g; omega) _, ?_, h.lb, by simpa using h.sz⟩
  rw [← row_swp F n i j hi hj]
  exact ((h.row.stored i _).1.stored j _).1
end

theorem less_at {hb base n g cap : Nat} {F : Nat → Nat} {w : World} (h : HM hb base F n (.slice (some ⟨g, 0, none⟩) n cap) w) (i j : Nat) (a b : Int) (ha : a = (i : Int)) (hb' : b = (j : Int)) (hi : i < n) (hj : j < n) (r : Bool) (hr : decide ((F i : Int) < (F j : Int)) = r) :
    Calls Yba.prog 86 #[.slice (some ⟨g, 0, none⟩) n cap, .int .i64 a, .int .i64 b] w fun e w' => e = .returned (.bool r) ∧ w' = w.drew := by
  subst ha hb' hr
  exact less_any g n cap i j _ _ w hi hj (h.cell i hi) (h.cell j hj)

theorem swap_at {hb base n g cap : Nat} {F : Nat → Nat} {w : World} (h : HM hb base F n (.slice (some ⟨g, 0, none⟩) n cap) w) (i j : Nat) (a b : Int) (ha : a = (i : Int)) (hb' : b = (j : Int)) (hi : i < n) (hj : j < n) :
    Calls Yba.prog 87 #[.slice (some ⟨g, 0, none⟩) n cap, .int .i64 a, .int .i64 b] w fun e w' => e = .returned (.tuple #[]) ∧ HM hb base (swp F i j) n (.slice (some ⟨g, 0, none⟩) n cap) w' ∧ HFr hb (.slice (some ⟨g, 0, none⟩) n cap) w w' := by
  subst ha hb'
  by_cases e : i = j
  · subst e
    refine (swap_one g n cap i _ w hi (h.cell i hi) (h.free i)).mono ?_
    rintro e w' ⟨rfl, rfl⟩
    exact ⟨rfl, (h.swap hi hi).drew, (((HFr.refl _ _ _).setRow _ _).setRow _ _).drew⟩
  · refine (swap_any g n cap i j _ _ w hi hj e (h.cell i hi) (h.cell j hj) (h.free i) (h.free j)).mono ?_
    rintro e w' ⟨rfl, rfl⟩
    exact ⟨rfl, (h.swap hi hj).drew, (((HFr.refl _ _ _).setRow _ _).setRow _ _).drew⟩

/-- what 'down' and 'up' leave -/
def HRes (hb base n n' : Nat) (F : Nat → Nat) (hv : Value) (w w' : World) : Prop :=
  ∃ F', HM hb base F' n hv w' ∧ IsH F' n' ∧ (∀ S, Of F n' S → Of F' n' S) ∧ (∀ k, n' ≤ k → F' k = F k) ∧ HFr hb hv w w'

def DRes (hb base n n' : Nat) (F : Nat → Nat) (hv : Value) (w : World) (e : Ending) (w' : World) : Prop := (∃ b, e = .returned (.bool b)) ∧ HRes hb base n n' F hv w w'

set_option maxRecDepth 100000 in
set_option maxHeartbeats 6400000 in
theorem down_any (hb base n n' g cap : Nat) (F : Nat → Nat) (w : World) (h : HM hb base F n (.slice (some ⟨g, 0, none⟩) n cap) w) (hn : n ≤ 100000) (hn' : n' ≤ n) (hd : Dn F n' 0) :
    Calls Yba.prog 30 #[.iface 58 (.pointer (some ⟨hb, 0, none⟩)), .int .i64 0, .int .i64 (n' : Int)] w fun e w' => DRes hb base n n' F (.slice (some ⟨g, 0, none⟩) n cap) w e w' := by
  have H0 : Hid (HM hb base F n (.slice (some ⟨g, 0, none⟩) n cap) w) := h
  have HD0 : Hid (Dn F n' 0) := hd
  clear h hd
  go_enter Yba.func30, Yba.ntmps30
  go_wp2
  go_loopg [7] n' (fun gk x wr => ∃ (i : Nat) (F' : Nat → Nat), i ≤ n' ∧ gk + i = n' ∧ x = .int .i64 (i : Int) ∧ HM hb base F' n (.slice (some ⟨g, 0, none⟩) n cap) wr ∧ Dn F' n' i ∧ (∀ S, Of F n' S → Of F' n' S) ∧ (∀ k, n' ≤ k → F' k = F k) ∧ HFr hb (.slice (some ⟨g, 0, none⟩) n cap) w wr)
  case atStart => exact ⟨0, F, Nat.zero_le _, rfl, rfl, H0.out, HD0.out, fun S h => h, fun _ _ => rfl, HFr.refl _ _ _⟩
  case round =>
    clear H0 HD0
    obtain ⟨i, F', hi, hgk, rfl, hM, hD, hS, hK, hF⟩ := hrel
    have HM' : Hid (HM hb base F' n (.slice (some ⟨g, 0, none⟩) n cap) wr) := hM
    have HD : Hid (Dn F' n' i) := hD
    have HS : Hid (∀ S, Of F n' S → Of F' n' S) := hS
    have HK : Hid (∀ k, n' ≤ k → F' k = F k) := hK
    have HF : Hid (HFr hb (.slice (some ⟨g, 0, none⟩) n cap) w wr) := hF
    have cb : wr.cell? ⟨hb, 0, none⟩ = some (.slice (some ⟨g, 0, none⟩) n cap) := hM.box.one
    have hml := fun W => m_less hb (some ⟨g, 0, none⟩) n cap W
    have hms := fun W => m_swap hb (some ⟨g, 0, none⟩) n cap W
    clear hM hD hS hK hF
    by_cases h1 : 2 * i + 1 < n'
    · have h1i : ¬ (n' : Int) ≤ 2 * (i : Int) + 1 := by omega
      have h1j : ¬ 2 * (i : Int) + 1 < 0 := by omega
      by_cases h2 : 2 * i + 2 < n' ∧ F' (2 * i + 2) < F' (2 * i + 1)
      · have h2i : 2 * (i : Int) + 1 + 1 < (n' : Int) := by omega
        by_cases h3 : F' (2 * i + 2) < F' i
        · go_wp2_with (first
            | (go_at_call 86; refine (less_at HM'.out (2 * i + 2) (2 * i + 1) _ _ (by omega) (by omega) (by omega) (by omega) true (by rw [decide_eq_true]; omega)).mono ?_; rintro e w3 ⟨rfl, rfl⟩)
            | (go_at_call 86; refine (less_at HM'.out.drew (2 * i + 2) i _ _ (by omega) (by omega) (by omega) (by omega) true (by rw [decide_eq_true]; omega)).mono ?_; rintro e w4 ⟨rfl, rfl⟩)
            | (go_at_call 87; refine (swap_at HM'.out.drew.drew i (2 * i + 2) _ _ (by omega) (by omega) (by omega) (by omega)).mono ?_; rintro e w5 ⟨rfl, hM5, hF5⟩))
          have hF6 : HFr hb (.slice (some ⟨g, 0, none⟩) n cap) w w5 := (HF.out.drew.drew).trans hF5
          have HM5 : Hid _ := hM5
          have HF6 : Hid _ := hF6
          clear hM5 hF5 hF6
          go_roundg (n' - (2 * i + 2))
          case measure => omega
          case rel => exact ⟨2 * i + 2, swp F' i (2 * i + 2), by omega, by omega, by go_num, HM5.out, HD.out.step (by unfold par; omega) (by omega) (by omega) h3 (fun k hk hkn hp => by
            have : k = 2 * i + 1 ∨ k = 2 * i + 2 := by unfold par at hp; omega
            rcases this with rfl | rfl <;> omega), fun S h => (HS.out S h).swap (by omega) (by omega), fun k hk => by
            rw [← HK.out k hk]; simp [swp, show k ≠ i by omega, show k ≠ 2 * i + 2 by omega], HF6.out⟩
        · go_wp2_with (first
            | (go_at_call 86; refine (less_at HM'.out (2 * i + 2) (2 * i + 1) _ _ (by omega) (by omega) (by omega) (by omega) true (by rw [decide_eq_true]; omega)).mono ?_; rintro e w3 ⟨rfl, rfl⟩)
            | (go_at_call 86; refine (less_at HM'.out.drew (2 * i + 2) (i) _ _ (by omega) (by omega) (by omega) (by omega) false (by rw [decide_eq_false]; omega)).mono ?_; rintro e w4 ⟨rfl, rfl⟩))
          go_ret
          exact ⟨⟨_, rfl⟩, F', HM'.out.drew.drew, HD.out.stop (fun h => by omega) (fun h => by omega), HS.out, HK.out, HF.out.drew.drew⟩
      · by_cases h2' : 2 * i + 2 < n'
        · have h2i : 2 * (i : Int) + 1 + 1 < (n' : Int) := by omega
          have h2j : F' (2 * i + 1) ≤ F' (2 * i + 2) := by omega
          by_cases h3 : F' (2 * i + 1) < F' i
          · go_wp2_with (first
              | (go_at_call 86; refine (less_at HM'.out (2 * i + 2) (2 * i + 1) _ _ (by omega) (by omega) (by omega) (by omega) false (by rw [decide_eq_false]; omega)).mono ?_; rintro e w3 ⟨rfl, rfl⟩)
              | (go_at_call 86; refine (less_at HM'.out.drew (2 * i + 1) (i) _ _ (by omega) (by omega) (by omega) (by omega) true (by rw [decide_eq_true]; omega)).mono ?_; rintro e w4 ⟨rfl, rfl⟩)
              | (go_at_call 87; refine (swap_at HM'.out.drew.drew i (2 * i + 1) _ _ (by omega) (by omega) (by omega) (by omega)).mono ?_; rintro e w5 ⟨rfl, hM5, hF5⟩))
            have hF6 : HFr hb (.slice (some ⟨g, 0, none⟩) n cap) w w5 := (HF.out.drew.drew).trans hF5
            have HM5 : Hid _ := hM5
            have HF6 : Hid _ := hF6
            clear hM5 hF5 hF6
            go_roundg (n' - (2 * i + 1))
            case measure => omega
            case rel => exact ⟨2 * i + 1, swp F' i (2 * i + 1), by omega, by omega, by go_num, HM5.out, HD.out.step (by unfold par; omega) (by omega) (by omega) h3 (fun k hk hkn hp => by
              have : k = 2 * i + 1 ∨ k = 2 * i + 2 := by unfold par at hp; omega
              rcases this with rfl | rfl <;> omega), fun S h => (HS.out S h).swap (by omega) (by omega), fun k hk => by
              rw [← HK.out k hk]; simp [swp, show k ≠ i by omega, show k ≠ 2 * i + 1 by omega], HF6.out⟩
          · go_wp2_with (first
              | (go_at_call 86; refine (less_at HM'.out (2 * i + 2) (2 * i + 1) _ _ (by omega) (by omega) (by omega) (by omega) false (by rw [decide_eq_false]; omega)).mono ?_; rintro e w3 ⟨rfl, rfl⟩)
              | (go_at_call 86; refine (less_at HM'.out.drew (2 * i + 1) (i) _ _ (by omega) (by omega) (by omega) (by omega) false (by rw [decide_eq_false]; omega)).mono ?_; rintro e w4 ⟨rfl, rfl⟩))
            go_ret
            exact ⟨⟨_, rfl⟩, F', HM'.out.drew.drew, HD.out.stop (fun h => by omega) (fun h => by omega), HS.out, HK.out, HF.out.drew.drew⟩
        · have h2i : ¬ 2 * (i : Int) + 1 + 1 < (n' : Int) := by omega
          by_cases h3 : F' (2 * i + 1) < F' i
          · go_wp2_with (first
              | (go_at_call 86; refine (less_at HM'.out (2 * i + 1) (i) _ _ (by omega) (by omega) (by omega) (by omega) true (by rw [decide_eq_true]; omega)).mono ?_; rintro e w3 ⟨rfl, rfl⟩)
              | (go_at_call 87; refine (swap_at HM'.out.drew i (2 * i + 1) _ _ (by omega) (by omega) (by omega) (by omega)).mono ?_; rintro e w5 ⟨rfl, hM5, hF5⟩))
            have hF6 : HFr hb (.slice (some ⟨g, 0, none⟩) n cap) w w5 := (HF.out.drew).trans hF5
            have HM5 : Hid _ := hM5
            have HF6 : Hid _ := hF6
            clear hM5 hF5 hF6
            go_roundg (n' - (2 * i + 1))
            case measure => omega
            case rel => exact ⟨2 * i + 1, swp F' i (2 * i + 1), by omega, by omega, by go_num, HM5.out, HD.out.step (by unfold par; omega) (by omega) (by omega) h3 (fun k hk hkn hp => by
              have : k = 2 * i + 1 ∨ k = 2 * i + 2 := by unfold par at hp; omega
              rcases this with rfl | rfl <;> omega), fun S h => (HS.out S h).swap (by omega) (by omega), fun k hk => by
              rw [← HK.out k hk]; simp [swp, show k ≠ i by omega, show k ≠ 2 * i + 1 by omega], HF6.out⟩
          · go_wp2_with (first
              | (go_at_call 86; refine (less_at HM'.out (2 * i + 1) (i) _ _ (by omega) (by omega) (by omega) (by omega) false (by rw [decide_eq_false]; omega)).mono ?_; rintro e w3 ⟨rfl, rfl⟩))
            go_ret
            exact ⟨⟨_, rfl⟩, F', HM'.out.drew, HD.out.stop (fun h => by omega) (fun h => by omega), HS.out, HK.out, HF.out.drew⟩
    · have h1i : (n' : Int) ≤ 2 * (i : Int) + 1 := by omega
      go_wp2
      go_ret
      exact ⟨⟨_, rfl⟩, F', HM'.out, HD.out.stop (fun h => by omega) (fun h => by omega), HS.out, HK.out, HF.out⟩

end Go.Proofs.Ybulkcnjc
