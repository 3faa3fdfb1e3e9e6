/-
  The library's functions at Edge.
-/
import Derived.Test.YbulkcnjcShelfE
import Derived.Test.YbulkcnjcShelf
import Derived.Test.YbulkcnjcCSerMem
import Derived.Shelf.SlSortCmp.NoneTotal
namespace Go.Proofs.Ybulkcnjc
open Go.RowKit Go.Deep Go.Shelf Go.Sort
set_option linter.unusedVariables false
set_option linter.unusedSimpArgs false
attribute [local go_sem ↓] Go.wp_at_zero Go.wp_at_succ

/-- cmp.Or of two -/
def or2 (a b : Int) : Int := if a = 0 then b else a

set_option maxRecDepth 100000 in
set_option maxHeartbeats 1600000 in
theorem or_any (B c : Nat) (a b : Int) (w : World) (h0 : w.cell? ⟨B, 0, none⟩ = some (.int .i64 a)) (h1 : w.cell? ⟨B, 1, none⟩ = some (.int .i64 b)) :
    Calls Yba.prog 27 #[.slice (some ⟨B, 0, none⟩) 2 c] w fun e w' => e = .returned (.int .i64 (or2 a b)) ∧ w' = w := by
  go_enter Yba.func27, Yba.ntmps27
  go_wp2
  go_loopg [8] 2 (fun gk x wr => ∃ k : Nat, k ≤ 2 ∧ gk + k = 2 ∧ x = .int .i64 (k : Int) ∧ (0 < k → a = 0) ∧ (1 < k → b = 0) ∧ wr = w)
  case atStart => exact ⟨0, by omega, rfl, rfl, fun h => by omega, fun h => by omega, rfl⟩
  case round =>
    obtain ⟨k, hk, hgk, rfl, ha, hb, hwr⟩ := hrel
    subst hwr
    have h3 : k = 0 ∨ k = 1 ∨ k = 2 := by omega
    rcases h3 with rfl | rfl | rfl
    · by_cases e : a = 0
      · subst e
        go_wp2
        go_roundg (gk - 1)
        case measure => omega
        case rel => exact ⟨1, by omega, by omega, by go_num, fun _ => (by first | rfl | trivial), fun h => by omega, rfl⟩
      · have hne : (a != 0) = true := by simpa using e
        go_wp2
        go_ret
        exact ⟨by rw [or2, if_neg e]; rfl, rfl⟩
    · have ha' := ha (by omega)
      subst ha'
      by_cases e : b = 0
      · subst e
        go_wp2
        go_roundg (gk - 1)
        case measure => omega
        case rel => exact ⟨2, by omega, by omega, by go_num, fun _ => (by first | rfl | trivial), fun _ => (by first | rfl | trivial), rfl⟩
      · have hne : (b != 0) = true := by simpa using e
        go_wp2
        go_ret
        exact ⟨by rw [or2, if_pos rfl]; rfl, rfl⟩
    · have ha' := ha (by omega)
      have hb' := hb (by omega)
      subst ha' hb'
      go_wp2
      go_ret
      exact ⟨rfl, rfl⟩

/-- an edge's two cells -/
def encE (x : Int × Int) : List Value := [.int .i64 x.1, .int .i64 x.2]
def cfE (x y : Int × Int) : Int := or2 (Lib.compareInt x.1 y.1) (Lib.compareInt x.2 y.2)

set_option maxRecDepth 100000 in
set_option maxHeartbeats 1600000 in
theorem closure_any (x y : Int × Int) (W : World) : Calls Yba.prog 26 #[.agg #[.int .i64 x.1, .int .i64 x.2], .agg #[.int .i64 y.1, .int .i64 y.2]] W fun e w' => e = .returned (.int .i64 (cfE x y)) ∧ ∃ q os', w' = grow (W.drewN q) os' := by
  unfold cfE
  obtain ⟨x1, x2⟩ := x
  obtain ⟨y1, y2⟩ := y
  simp only []
  go_enter Yba.func26, Yba.ntmps26
  go_upto_region 1 with fail
  obtain ⟨w2, hw2⟩ : ∃ z, z = ((W.alloc (.cells #[.int .i64 x1, .int .i64 x2] 52)).alloc (.cells #[.int .i64 y1, .int .i64 y2] 52)) := ⟨_, rfl⟩
  have HW2 : Hid (w2 = ((W.alloc (.cells #[.int .i64 x1, .int .i64 x2] 52)).alloc (.cells #[.int .i64 y1, .int .i64 y2] 52))) := hw2
  rw [← hw2]
  have hA : Blk w2 W.heap.size 52 #[.int .i64 x1, .int .i64 x2] := by rw [hw2]; exact (Blk.new _ _ _).alloc _
  have hB : Blk w2 (W.heap.size + 1) 52 #[.int .i64 y1, .int .i64 y2] := by
    rw [hw2, ← World.size_alloc W (.cells #[.int .i64 x1, .int .i64 x2] 52)]; exact Blk.new _ _ _
  clear hw2
  generalize W.heap.size = H at hA hB ⊢
  have a0 : w2.cell? ⟨H, 0, none⟩ = some (.int .i64 x1) := by rw [hA.cell]; rfl
  have a1 : w2.cell? ⟨H, 1, none⟩ = some (.int .i64 x2) := by rw [hA.cell]; rfl
  have b0 : w2.cell? ⟨H + 1, 0, none⟩ = some (.int .i64 y1) := by rw [hB.cell]; rfl
  have b1 : w2.cell? ⟨H + 1, 1, none⟩ = some (.int .i64 y2) := by rw [hB.cell]; rfl
  clear hA hB
  go_region_held3 (fun w' => w'.cell? ⟨H, 0, none⟩ = some (.int .i64 x1) ∧ w'.cell? ⟨H, 1, none⟩ = some (.int .i64 x2) ∧ w'.cell? ⟨H + 1, 0, none⟩ = some (.int .i64 y1) ∧ w'.cell? ⟨H + 1, 1, none⟩ = some (.int .i64 y2)) (go_keep)
    (first
      | (go_at_call 28; refine (Yba.cmp_Compare_int _ _ _).mono ?_; rintro e w3 ⟨rfl, rfl⟩)
      | (go_at_call 27; refine (or_any _ _ _ _ _ ((Blk.new _ _ _).cell 0) ((Blk.new _ _ _).cell 1)).mono ?_; rintro e w3 ⟨rfl, rfl⟩))
  all_goals
    go_wp2
    go_ret
    refine ⟨rfl, 1, #[.cells #[.int .i64 x1, .int .i64 x2] 52, .cells #[.int .i64 y1, .int .i64 y2] 52, .cells #[.int .i64 (Lib.compareInt x1 y1), .int .i64 (Lib.compareInt x2 y2)] 3], ?_⟩
    rw [HW2.out]
    simp only [alloc_eq_grow, grow_grow]
    rfl

theorem ltE (x y : Int × Int) : ltOf cfE x y = decide (x.1 < y.1 ∨ (x.1 = y.1 ∧ x.2 < y.2)) := by
  unfold ltOf cfE or2 Lib.compareInt
  by_cases h1 : x.1 < y.1
  · simp [h1]
  · by_cases h2 : y.1 < x.1
    · have : ¬ x.1 = y.1 := by omega
      simp [h1, h2, this]
    · have : x.1 = y.1 := by omega
      by_cases h3 : x.2 < y.2
      · simp [h1, h2, h3, this]
      · by_cases h4 : y.2 < x.2 <;> simp [h1, h2, h3, h4, this]

theorem swoE : SWO (ltOf cfE) where
  irrefl x := by rw [ltE]; simp
  trans x y z h1 h2 := by rw [ltE] at *; simp at *; omega
  ntrans x y z h1 h2 := by rw [ltE] at *; simp at *; omega

theorem cmpLaysE (blk off size : Nat) (w : World) : CmpLays Yba.prog 26 #[] encE 2 cfE blk off size w :=
  fun _ _ _ _ x y => closure_any x y _

theorem sortE_any (blk off cap : Nat) (d : Array (Int × Int)) (w : World) (hH : HoldsK encE 2 w blk off d) (hblk : blk < w.heap.size) (hsz : d.size < 4611686018427387904) :
    Calls Yba.prog 25 #[.slice (some ⟨blk, off, none⟩) d.size cap, .func (.func 26) #[] #[]] w fun e w' => e = .returned (.tuple #[]) ∧ ∃ d' n os, PermIn 0 d.size d d' ∧ SortedIn (ltOf cfE) 0 d.size d' ∧ w' = sortWorldK encE 2 w blk off n d' os :=
  AnyQ.slices_SortFunc Yba.sortEd 2 Yba.isAgg52 Yba.sizeOf52 encE (fun _ => rfl) (fun x v hv => by simp [encE] at hv; rcases hv with rfl | rfl <;> rfl) cfE swoE 26 #[] blk off cap d w (enters_of Yba.func26 (by kernel_rfl) rfl) (cmpLaysE blk off d.size w) hH hblk hsz
theorem sortE_none (p : Option Addr) (cap : Nat) (fv : Value) (w : World) : Calls Yba.prog 25 #[.slice p 0 cap, fv] w fun e w' => e = .returned (.tuple #[]) ∧ w' = w := AnyF.slices_SortFunc_none { Yba.sortEd with } p cap fv w

theorem info52 : (Yba.prog.info? 52).map (fun i => (i.zero, i.size, i.bytes)) = some (some (.agg #[.int .i64 0, .int .i64 0]), 2, 16) := by kernel_rfl
theorem cloneE_any (b off n c : Nat) (news : List Value) (w : World) (hl : news.length = n * 2) (hn : n ≤ 100000) (hc : ∀ j u, news[j]? = some u → w.cell? ⟨b, off + j, none⟩ = some u) (h1 : ∀ u ∈ news, u.oneCell' = true) :
    Calls Yba.prog 24 #[.slice (some ⟨b, off, none⟩) n c] w fun e w' => ∃ v', e = .returned v' ∧ w'.ownsRow w.heap.size 52 2 v' n news ∧ v' ≠ .slice none 0 0 ∧ RowKit.Below w.heap.size w w' := by
  obtain ⟨i, hi, hz, hs, hb⟩ := info_parts info52
  exact AnyE.slices_Clone Yba.cloneEd i _ 2 16 hi hz hs hb rfl (by decide) Yba.sizeOf52 b off n c news w hl (by unfold maxLen; omega) (by omega) hc h1
end Go.Proofs.Ybulkcnjc
