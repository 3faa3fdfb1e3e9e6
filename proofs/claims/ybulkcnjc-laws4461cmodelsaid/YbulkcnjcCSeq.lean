/-
  slices.Values, AppendSeq, Collect, Sorted at int, at this dump (after the kit's worked examples).
-/
import Derived.RangeFuncBox
import Derived.RangeFuncLeaves
import Derived.Shelf.Abstract
import Derived.WalkKit
import Derived.OwnWalkIn
import Derived.TacticsInMore
import Derived.LoopNIn
import Derived.LoopIn
import Derived.Maps.AppendAt
import Derived.Sort.OwnSortedInts
import Derived.Test.YbulkcnjcShelf
namespace Go.Proofs.Ybulkcnjc
open Go.RowKit Go.Shelf Go.Sort

attribute [local go_sem] Oper.semAt_some

def It.upto {α : Type} (f : Nat → α) (k : Nat) : List α := (List.range k).map f
theorem It.upto_succ {α : Type} (f : Nat → α) (k : Nat) : It.upto f (k + 1) = It.upto f k ++ [f k] := by simp [It.upto, List.range_succ]
theorem It.upto_length {α : Type} (f : Nat → α) (k : Nat) : (It.upto f k).length = k := by simp [It.upto]
theorem It.upto_all (zs : List Int) : It.upto (fun j => zs[j]?.getD 0) zs.length = zs := by
  apply List.ext_getElem
  · simp [It.upto]
  · intro i h1 h2
    simp [It.upto, h2]

set_option maxRecDepth 100000 in
set_option maxHeartbeats 2000000 in
theorem It.values1_in (F : Fence) (n : Nat) (h7 : F.fn 44) (hro : F.round = none) (hn : 1 ≤ n) (l Bs n₀ b off len cap : Nat) (zs : List Int) (hreach : len * 8 ≤ 140737488351232) (hb : b < n₀) (J Jx : List Int → World → Prop)
    (hY : ∀ pre x W, J pre W → pre.length < len → YieldAt F (n - 1) Yba.prog l #[.int .i64 x] W fun e W' =>
      (e = .returned (.bool true) ∧ J (pre ++ [x]) W' ∧ Below n₀ W W') ∨ (e = .returned (.bool false) ∧ Jx (pre ++ [x]) W'))
    (W : World) (hBs : W.cell? ⟨Bs, 0, none⟩ = some (.slice (some ⟨b, off, none⟩) len cap)) (hc : ∀ j, j < len → W.cell? ⟨b, off + j, none⟩ = some (.int .i64 (zs[j]?.getD 0))) (h0 : J [] W) :
    CallsIn F n Yba.prog 44 #[.func (.yield l) #[] #[], .pointer (some ⟨Bs, 0, none⟩)] W fun e W' => (∃ v, e = .returned v) ∧
      ((∃ ys, ys = It.upto (fun j => zs[j]?.getD 0) len ∧ J ys W') ∨ (∃ pre, (∃ k, k ≤ len ∧ pre = It.upto (fun j => zs[j]?.getD 0) k) ∧ Jx pre W')) := by
  refine callsIn_of_wp Yba.func44 rfl h7 ?_ hro
  simp only [Yba.ntmps44, List.size_toArray, List.length_cons, List.length_nil, Nat.reduceAdd, Nat.reduceSub, Array.replicate_succ, Array.replicate_zero, List.push_toArray, List.append_toArray, List.nil_append, List.cons_append]
  gi_wp2
  gi_loopw [7] (fun i wr => ∃ k : Nat, k ≤ len ∧ i = .int .i64 k ∧ J (It.upto (fun j => zs[j]?.getD 0) k) wr ∧ Below n₀ W wr)
    (fun i _ => len - (intOf i).toNat)
  case atStart => exact ⟨0, Nat.zero_le _, rfl, h0, Below.refl _ _⟩
  case round =>
    obtain ⟨k, hk, rfl, hJs, hnx⟩ := hrel
    have hcx : k < len → wr.cell? ⟨b, off + k, none⟩ = some (.int .i64 (zs[k]?.getD 0)) := fun h => (hnx.cell (p := ⟨b, off + k, none⟩) hb).trans (hc k h)
    by_cases hlt : k < len
    · obtain ⟨fn, tmps, assign, body, hy, hR⟩ := hY _ (zs[k]?.getD 0) wr hJs (by rw [It.upto_length]; exact hlt)
      have hcx' := hcx hlt
      gi_wp2
      refine hR.mono ?_
      rintro e W3 (⟨rfl, hJ3, hk3⟩ | ⟨rfl, hJx3⟩)
      · -- THE ROUND GOES ON
        gi_wp2
        go_roundw
        case rel => exact ⟨k + 1, by omega, by simp, by rw [It.upto_succ]; exact hJ3, hnx.trans hk3⟩
        case measure => simp [intOf]; omega
      · gi_wp2
        refine bodyPost_ret (results_none rfl _ _ _) rfl ?_
        exact ⟨⟨_, rfl⟩, .inr ⟨_, ⟨k + 1, by omega, (It.upto_succ _ _).symm⟩, hJx3⟩⟩
    · obtain rfl : k = len := by omega
      gi_wp2
      go_end0
      exact ⟨⟨_, rfl⟩, .inl ⟨_, rfl, hJs⟩⟩

theorem It.upto_take (zs : List Int) {k : Nat} (hk : k ≤ zs.length) : It.upto (fun j => zs[j]?.getD 0) k = zs.take k := by
  apply List.ext_getElem
  · simp [It.upto, hk]
  · intro i h1 h2
    have : i < zs.length := by simp [It.upto] at h1; omega
    simp [It.upto, this]

def It.Ints (n₀ : Nat) (W : World) (sv : Value) (zs : List Int) : Prop :=
  (sv = .slice none 0 0 ∧ zs = []) ∨ ∃ b off cap, sv = .slice (some ⟨b, off, none⟩) zs.length cap ∧ b < n₀ ∧ ∀ j, j < zs.length → W.cell? ⟨b, off + j, none⟩ = some (.int .i64 (zs[j]?.getD 0))
theorem It.Ints.below {n₀ : Nat} {A B : World} (h : Below n₀ A B) {sv : Value} {zs : List Int} : It.Ints n₀ A sv zs → It.Ints n₀ B sv zs
  | .inl e => .inl e
  | .inr ⟨b, off, cap, e, hb, hc⟩ => .inr ⟨b, off, cap, e, hb, fun j hj => (h.cell (p := ⟨b, off + j, none⟩) hb).trans (hc j hj)⟩

set_option maxRecDepth 100000 in
set_option maxHeartbeats 1000000 in
theorem It.values1_nil_in (F : Fence) (n : Nat) (h7 : F.fn 44) (hro : F.round = none) (l Bs : Nat) (J : List Int → World → Prop) (W : World) (hBs : W.cell? ⟨Bs, 0, none⟩ = some (.slice none 0 0)) (h0 : J [] W) :
    CallsIn F n Yba.prog 44 #[.func (.yield l) #[] #[], .pointer (some ⟨Bs, 0, none⟩)] W fun e W' => (∃ v, e = .returned v) ∧ J [] W' := by
  refine callsIn_of_wp Yba.func44 rfl h7 ?_ hro
  simp only [Yba.ntmps44, List.size_toArray, List.length_cons, List.length_nil, Nat.reduceAdd, Nat.reduceSub, Array.replicate_succ, Array.replicate_zero, List.push_toArray, List.append_toArray, List.nil_append, List.cons_append]
  gi_wp2
  gi_loopw [7] (fun i wr => i = .int .i64 0 ∧ J [] wr) (fun _ _ => 0)
  case atStart => exact ⟨rfl, h0⟩
  case round =>
    obtain ⟨rfl, hJs⟩ := hrel
    gi_wp2
    go_end0
    exact ⟨⟨_, rfl⟩, hJs⟩

set_option maxHeartbeats 1000000 in
theorem It.values_in (F : Fence) (n : Nat) (h5 : F.fn 23) (hro : F.round = none) (a : Option Addr) (len cap : Nat) (w : World) :
    CallsIn F n Yba.prog 23 #[.slice a len cap] w fun e w' => e = .returned (.func (.func 44) #[] #[.pointer (some ⟨w.heap.size, 0, none⟩)]) ∧ w' = w.alloc (.cells #[.slice a len cap] 26) := by
  refine callsIn_of_wp Yba.func23 rfl h5 ?_ hro
  simp only [Yba.ntmps23, List.size_toArray, List.length_cons, List.length_nil, Nat.reduceAdd, Nat.reduceSub, Array.replicate_succ, Array.replicate_zero, List.push_toArray, List.append_toArray, List.nil_append, List.cons_append]
  gi_wp2
  go_ret
  exact ⟨rfl, rfl⟩

theorem It.values_stops (F : Fence) (n : Nat) (h7 : F.fn 44) (hro : F.round = none) (hn : 1 ≤ n) (Bs n₀ : Nat) (sv : Value) (zs : List Int) (hreach : zs.length * 8 ≤ 140737488351232) (w : World) (hBs : Bs < w.heap.size) (hn₀ : n₀ ≤ w.heap.size)
    (hc : w.cell? ⟨Bs, 0, none⟩ = some sv) (hI : It.Ints n₀ w sv zs) :
    SeqStopsK F n Yba.prog 44 #[.pointer (some ⟨Bs, 0, none⟩)] (fun x : Int => #[Value.int .i64 x]) (Below n₀) (fun ys => ys = zs) (fun pre => pre <+: zs) zs.length w := fun l J Jx W hW _ _ hY h0 => by
  have hc' := (hW.cell (p := ⟨Bs, 0, none⟩) hBs).trans hc
  rcases hI.below (hW.mono hn₀) with ⟨rfl, rfl⟩ | ⟨b, off, cap, rfl, hb, hcs⟩
  · exact (It.values1_nil_in F n h7 hro l Bs J W hc' h0).mono fun e W' ⟨he, hj⟩ => ⟨he, .inl ⟨_, rfl, hj⟩⟩
  · refine (It.values1_in F n h7 hro hn l Bs n₀ b off zs.length cap zs hreach hb J Jx hY W hc' hcs h0).mono ?_
    rintro e W' ⟨he, ⟨ys, rfl, hj⟩ | ⟨pre, ⟨k, hk, rfl⟩, hj⟩⟩
    · exact ⟨he, .inl ⟨_, It.upto_all zs, hj⟩⟩
    · exact ⟨he, .inr ⟨_, by rw [It.upto_take zs hk]; exact List.take_prefix _ _, hj⟩⟩


theorem It.info3 : (Yba.prog.info? 3).map (fun i => (i.zero, i.size, i.bytes)) = some (some (.int .i64 0), 1, 8) := by kernel_rfl

set_option maxRecDepth 100000 in
set_option maxHeartbeats 2000000 in
theorem It.appendSeq_in (F : Fence) (n : Nat) (h52 : F.fn 52) (h44 : F.fn 44) (hro : F.round = none) (hn : 2 ≤ n) (Bs n₀ : Nat) (sv : Value) (zs : List Int) (hlen : zs.length ≤ 100000) (w : World) (hBs : Bs < w.heap.size) (hn₀ : n₀ ≤ w.heap.size)
    (hcs : w.cell? ⟨Bs, 0, none⟩ = some sv) (hI : It.Ints n₀ w sv zs) :
    CallsIn F n Yba.prog 52 #[.slice none 0 0, .func (.func 44) #[] #[.pointer (some ⟨Bs, 0, none⟩)]] w fun e W' => ∃ v, e = .returned v ∧ W'.ownsRow w.heap.size 3 1 v zs.length (zs.map (Value.int .i64)) ∧ (v = .slice none 0 0 ↔ zs = []) ∧ Below w.heap.size w W' := by
  have h1 : 1 ≤ n := by omega
  obtain ⟨i0, hi, hz0, hz1, hz2⟩ := info_parts It.info3
  refine callsIn_of_wp_marks Yba.func52 rfl h52 ?_ hro
  simp only [Yba.ntmps52, List.size_toArray, List.length_cons, List.length_nil, Nat.reduceAdd, Nat.reduceSub, Array.replicate_succ, Array.replicate_zero, List.push_toArray, List.append_toArray, List.nil_append, List.cons_append]
  gi_wp2
  have bO := Boxed.new w 26 (.slice none 0 0)
  have hB0 : Below w.heap.size w (w.alloc (.cells #[.slice none 0 0] 26)) := (Below.refl _ w).alloc (Nat.le_refl _) _
  refine wpIn_rangeFunc_ownG hro h1 (gf := 44) (lb := #[.pointer (some ⟨Bs, 0, none⟩)]) rfl h44 (enters_of Yba.func44 (by kernel_rfl) rfl)
    (It.values_stops F (n - 1) h44 hro (by omega) Bs n₀ sv zs (by omega) _ (by simp; omega) (by simp; omega) ((hB0.cell (p := ⟨Bs, 0, none⟩) hBs).trans hcs) (hI.below (hB0.mono hn₀))) belowK_t (belowK_b (by simp; omega)) (Below.refl _ _) (fun _ => rfl)
    (fun pre W => (∃ v, Boxed W w.heap.size 26 v ∧ W.ownsRow w.heap.size 3 1 v pre.length (pre.map (Value.int .i64)) ∧ (v = .slice none 0 0 ↔ pre = [])) ∧ Below w.heap.size w W)
    (fun _ _ _ => False)
    (OwnFrom.and (Own.from (holdsRow_own w.heap.size w.heap.size 26 3 1 (fun pre => pre.length) (fun pre => pre.map (Value.int .i64)) (fun pre v => v = .slice none 0 0 ↔ pre = [])) _) (ownFrom_below (Nat.le_refl _) (by simp)))
    (fun _ _ _ _ _ hs _ _ => hs)
    ⟨⟨_, bO, World.ownsRow_nil _ _ _ _, by simp⟩, hB0⟩
    (fun x => { tmps := #[.slice none 0 0, .func (.func 44) #[] #[.pointer (some ⟨Bs, 0, none⟩)], .pointer (some ⟨w.heap.size, 0, none⟩), undef, .slice none 0 0, .int .i64 x, .func (.func 44) #[] #[.pointer (some ⟨Bs, 0, none⟩)], .int .i64 x, undef, undef, undef, undef, undef], defers := [] }) ?assign ?body ?done ?stop
  case assign =>
    intro l x W K hK
    gi_wp2
    exact hK
  case body =>
    rintro l pre x W ⟨⟨v, hv, hrow, hnil⟩, hB⟩ hlt
    have hc := hv.cell
    gi_wp2_with (gi_at_builtin; refine wpListIn_append_own _ rfl _ _ 26 rfl w.heap.size 3 i0 (.int .i64 0) 1 8 Yba.underlying26 hi hz0 hz1 hz2 rfl (by decide) _ _ _ rfl (hrow.alloc _) ⟨W.heap.size, 0, none⟩ 1 1 [.int .i64 x] rfl rfl (cell_one_new _ _ _) (by simp [Value.oneCell']) (by unfold maxLen; omega) (by omega) (by have := hB.size; simp; omega) ?_; intro v' w1 hown' hgrow _; obtain ⟨g', cap', rfl⟩ := ownsRow_succ hown'; obtain ⟨hv1, hv2, hr2, hk2, hb2⟩ := hv.appended (by decide) hrow hB.size (Nat.le_refl _) hown' hgrow; have hc1 := hv1.cell; have hf1 := hv1.frozen)
    exact ⟨hk2.from _, hb2.mono hn₀, ⟨_, hv2, by simpa using hr2, by simp⟩, hB.trans hb2⟩
  case done =>
    rintro D ys W hD rfl ⟨⟨v, hv, hrow, hnil⟩, hB⟩ hK
    have hc := hv.cell
    gi_wp2
    refine ⟨by simp, .inl ⟨_, _, rfl, run_takeDeferred hK, ?_⟩⟩
    exact ⟨_, results_tmp rfl _ _ _, v, rfl, ownsRow_putObj hrow _ hK rfl, hnil, hB.trans (belowK_b (w := w) (Nat.le_refl _) W D _ _ (by simp at hD; omega) hK rfl rfl)⟩
  case stop =>
    rintro D c pre W _ _ h _
    exact h.elim

set_option maxRecDepth 100000 in
set_option maxHeartbeats 2000000 in
theorem It.collect_in (F : Fence) (n : Nat) (h43 : F.fn 43) (h52 : F.fn 52) (h44 : F.fn 44) (hro : F.round = none) (hn : 3 ≤ n) (Bs n₀ : Nat) (sv : Value) (zs : List Int) (hlen : zs.length ≤ 100000) (w : World) (hBs : Bs < w.heap.size) (hn₀ : n₀ ≤ w.heap.size)
    (hcs : w.cell? ⟨Bs, 0, none⟩ = some sv) (hI : It.Ints n₀ w sv zs) :
    CallsIn F n Yba.prog 43 #[.func (.func 44) #[] #[.pointer (some ⟨Bs, 0, none⟩)]] w fun e W' => ∃ v, e = .returned v ∧ W'.ownsRow w.heap.size 3 1 v zs.length (zs.map (Value.int .i64)) ∧ (v = .slice none 0 0 ↔ zs = []) ∧ Below w.heap.size w W' := by
  have h1 : 1 ≤ n := by omega
  have cA := It.appendSeq_in F (n - 1) h52 h44 hro (by omega) Bs n₀ sv zs hlen w hBs hn₀ hcs hI
  refine callsIn_of_wp Yba.func43 rfl h43 ?_ hro
  simp only [Yba.ntmps43, List.size_toArray, List.length_cons, List.length_nil, Nat.reduceAdd, Nat.reduceSub, Array.replicate_succ, Array.replicate_zero, List.push_toArray, List.append_toArray, List.nil_append, List.cons_append]
  gi_wp2_with (gi_at_call 52; refine cA.mono ?_; rintro e w' ⟨v, rfl, hrow, hnil, hb⟩)
  go_ret
  exact ⟨v, rfl, hrow, hnil, hb⟩

set_option maxRecDepth 100000 in
set_option maxHeartbeats 2000000 in
theorem It.sorted_in (n : Nat) (hn : 4 ≤ n) (Bs n₀ : Nat) (sv : Value) (zs : List Int) (hlen : zs.length ≤ 100000) (w : World) (hBs : Bs < w.heap.size) (hn₀ : n₀ ≤ w.heap.size)
    (hcs : w.cell? ⟨Bs, 0, none⟩ = some sv) (hI : It.Ints n₀ w sv zs) :
    CallsIn Fence.wide n Yba.prog 22 #[.func (.func 44) #[] #[.pointer (some ⟨Bs, 0, none⟩)]] w fun e W' => ∃ v, e = .returned v ∧ W'.ownsRow w.heap.size 3 1 v zs.length ((zs.mergeSort fun x y => decide (x ≤ y)).map (Value.int .i64)) ∧ (v = .slice none 0 0 ↔ zs = []) ∧ Below w.heap.size w W' := by
  have h1 : 1 ≤ n := by omega
  have cA := It.collect_in Fence.wide (n - 1) trivial trivial trivial rfl (by omega) Bs n₀ sv zs hlen w hBs hn₀ hcs hI
  have hf1 : Fence.wide.fn 43 := trivial
  have hf2 : Fence.wide.fn 13 := trivial
  refine callsIn_of_wp Yba.func22 rfl trivial ?_ rfl
  simp only [Yba.ntmps22, List.size_toArray, List.length_cons, List.length_nil, Nat.reduceAdd, Nat.reduceSub, Array.replicate_succ, Array.replicate_zero, List.push_toArray, List.append_toArray, List.nil_append, List.cons_append]
  gi_wp2_with (gi_at_call 43; refine cA.mono ?_; rintro e W ⟨v, rfl, hrow, hnil, hb⟩)
  rcases hrow.2 with ⟨rfl, hz⟩ | ⟨gb, cap, cur, rfl, hbase, hgb, r1, r2, r3, r4⟩
  · have hss : zs = [] := List.eq_nil_of_length_eq_zero hz
    subst hss
    gi_wp2_with (gi_at_call 13; refine (callsIn_wide.2 (Yba.slices_Sort_int_none none 0 W)).mono ?_; rintro e w' ⟨rfl, rfl⟩)
    go_ret
    exact ⟨.slice none 0 0, rfl, by simpa using hrow, by simp, hb⟩
  · have hH : Holds (Value.int .i64) W gb 0 zs.toArray := holds_of_blockI hgb (by simpa using r4)
    have hgl : gb < W.heap.size := (Array.getElem?_eq_some_iff.1 hgb).1
    have hsz : zs.length < 4611686018427387904 := by omega
    have cS := Yba.slices_Sort_int gb 0 cap zs W hH hgl hsz
    gi_wp2_with (gi_at_call 13; refine (callsIn_wide.2 cS).mono ?_; rintro e w' ⟨rfl, nn, os, rfl⟩)
    go_ret
    exact ⟨_, rfl, ownsRow_sortedI (by simp) hbase hgb r1 r2 r3, hnil, hb.grown (grownBy_sortedI _) hb.size (fun j hj => by cases hj; exact hbase)⟩

def SortedRes (zs : List Int) (w : World) (e : Ending) (W' : World) : Prop :=
  ∃ v, e = .returned v ∧ W'.ownsRow w.heap.size 3 1 v zs.length ((zs.mergeSort fun x y => decide (x ≤ y)).map (Value.int .i64)) ∧ (v = .slice none 0 0 ↔ zs = []) ∧ Below w.heap.size w W'

theorem sorted_any (Bs n₀ : Nat) (sv : Value) (zs : List Int) (hlen : zs.length ≤ 100000) (w : World) (hBs : Bs < w.heap.size) (hn₀ : n₀ ≤ w.heap.size) (hcs : w.cell? ⟨Bs, 0, none⟩ = some sv) (hI : It.Ints n₀ w sv zs) :
    Calls Yba.prog 22 #[.func (.func 44) #[] #[.pointer (some ⟨Bs, 0, none⟩)]] w fun e W' => SortedRes zs w e W' :=
  (callsIn_wide (n := 6)).1 (It.sorted_in 6 (by omega) Bs n₀ sv zs hlen w hBs hn₀ hcs hI)

theorem values_any (a : Option Addr) (len cap : Nat) (w : World) :
    Calls Yba.prog 23 #[.slice a len cap] w fun e w' => e = .returned (.func (.func 44) #[] #[.pointer (some ⟨w.heap.size, 0, none⟩)]) ∧ w' = w.alloc (.cells #[.slice a len cap] 26) :=
  (callsIn_wide (n := 6)).1 (It.values_in Fence.wide 6 trivial rfl a len cap w)

end Go.Proofs.Ybulkcnjc
