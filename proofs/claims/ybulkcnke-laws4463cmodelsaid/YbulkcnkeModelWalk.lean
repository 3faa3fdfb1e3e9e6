/-
  LawS4463CModel: the walk.
-/
import Derived.Test.YbulkcnkePctWalks
import Derived.Laws.BytesArg
import Derived.Laws.IdiomStrings
import Derived.Deep.RegionWith
namespace Go.Proofs.Ybulkcnke
open Go.RowKit

theorem info5 : (Yba.prog.info? 5).map (fun i => (i.zero, i.size, i.bytes)) = some (some (.int .u8 0), 1, 1) := by kernel_rfl

theorem conv_own {base : Nat} {v : Value} {l : List UInt8} {W : World} (h : W.ownsRow base 5 1 v l.length (Lib.byteCells l)) :
    (convert 31 9 v).run Yba.prog W = .ok (.string ⟨l.toArray⟩) W := by
  have h2 := h.2
  rcases h2 with ⟨rfl, hn⟩ | ⟨g, cap, cur, rfl, _⟩
  · have : l = [] := List.eq_nil_of_length_eq_zero hn
    subst this
    exact run_convert_bytes_nil W 31 5 Yba.underlying31 Yba.underlying5 0 0 9 Yba.underlying9
  · refine run_convert_bytes_back (P := Yba.prog) W 31 9 5 ⟨g, 0, none⟩ cap l Yba.underlying31 Yba.underlying5 Yba.underlying9 ?_
    intro j hj
    exact h.cells rfl j _ (by simp [Lib.byteCells, hj])

theorem owns_below {base : Nat} {e : TypeId} {size : Nat} {v : Value} {n : Nat} {xs : List Value} {w w1 : World} (h : w.ownsRow base e size v n xs) (hb : Below w.heap.size w w1) :
    w1.ownsRow base e size v n xs := by
  cases hv : v.ownBlock with
  | none => exact h.kept (row := none) ⟨hb.os, hb.tape, hb.output, hb.size, fun k hk _ => hb.block k hk⟩ (Or.inl hv)
  | some k => exact h.kept (row := none) ⟨hb.os, hb.tape, hb.output, hb.size, fun k hk _ => hb.block k hk⟩ (Or.inr (by simp [hv]))

theorem owns_draws {base : Nat} {e : TypeId} {size : Nat} {v : Value} {n : Nat} {xs : List Value} {w : World} (h : w.ownsRow base e size v n xs) (k : Nat) : (w.drewN k).ownsRow base e size v n xs := h

theorem ret_bool {b : Bool} (h : b = true) : Ending.returned (.bool b) = .returned (.bool true) := by rw [h]

set_option maxHeartbeats 1600000 in
theorem model_walk (s : ByteArray) (w : World) (hs : s.size ≤ 4096) :
    Calls Yba.prog 5 #[.string s] w fun e w' => e = .returned (.bool true) ∧ Below w.heap.size w w' := by
  obtain ⟨i0, hi, hz0, hz1, hz2⟩ := info_parts info5
  have hs' : ¬ (4096 : Int) < s.size := by omega
  go_enter Yba.func5, Yba.ntmps5
  go_wp2_with (at_make; refine wpList_make_own _ rfl _ _ 31 rfl w.heap.size 5 i0 (.int .u8 0) 1 Yba.underlying31 hi hz0 hz1 .i64 .i64 _ (3 * s.size) rfl rfl (by omega) (by rw [hz2]; omega) (by unfold maxLen; omega) (Nat.le_refl _) ?_; intro w1 hown hgrow)
  have hb1 : Below w.heap.size w w1 := (Below.refl _ w).grown hgrow (Nat.le_refl _) (by simp)
  clear hgrow
  go_loopw [3, 4] (fun v i wr => ∃ k : Nat, k ≤ s.size ∧ i = .int .i64 k ∧ wr.ownsRow w.heap.size 5 1 v (encL (s.data.toList.take k)).length (Lib.byteCells (encL (s.data.toList.take k))) ∧ Below w.heap.size w wr)
    (fun _ i _ => s.size - (intOf i).toNat)
  case atStart => exact ⟨0, Nat.zero_le _, rfl, hown, hb1⟩
  case round =>
    clear hown hb1
    obtain ⟨k, hk, rfl, hown, hb⟩ := hrel
    have hsz := hb.size
    have hlen := encL_take_len s.data.toList k
    have hll : s.data.toList.length = s.size := by simp
    have hlen2 : (encL (s.data.toList.take k)).length + 4 ≤ 20000 := by omega
    by_cases hlt : k < s.size
    · have hl : k < s.data.toList.length := by omega
      obtain ⟨b, hbk⟩ : ∃ b : UInt8, b = s[k] := ⟨_, rfl⟩
      have hst : encL (s.data.toList.take (k + 1)) = encL (s.data.toList.take k) ++ encB b := by rw [encL_take_succ _ k hl, hbk]; rfl
      have hix0 := run_index_at s k hlt
      rw [← hbk] at hix0
      have hc1 : (b.toNat : Int) ≤ 255 := by have := UInt8.toNat_lt b; omega
      by_cases hU : unres b = true
      · have hU' := (unres_iff b).1 hU
        rw [encB_yes hU] at hst
        have HS : Hid (∀ (v : Value) (W : World), W.ownsRow w.heap.size 5 1 v ((encL (s.data.toList.take k)).length + 1) (Lib.byteCells (encL (s.data.toList.take k)) ++ [.int .u8 (b.toNat : Int)]) → W.ownsRow w.heap.size 5 1 v (encL (s.data.toList.take (k + 1))).length (Lib.byteCells (encL (s.data.toList.take (k + 1))))) := by
          intro v W h
          rw [hst, ← cells_snoc, List.length_append]
          exact h
        generalize (b.toNat : Int) = c at hU' hix0 hc1 HS
        clear hst hU hbk hl hll hlen
        go_wp2_with fail
        refine (unres_yes c _ hU').mono ?_
        rintro e w2 ⟨rfl, rfl⟩
        go_wp2_with (at_builtin; refine wpList_append_own _ rfl _ _ 31 rfl w.heap.size 5 i0 (.int .u8 0) 1 1 Yba.underlying31 hi hz0 hz1 hz2 rfl (by decide) _ _ _ rfl (hown.alloc _) ⟨_, 0, none⟩ 1 1 [.int .u8 c] rfl rfl ?c1 ?c2 ?c3 ?c4 ?c5 ?_)
        case c1 => exact cell_one_new _ _ _
        case c2 => intro u hu; simp at hu; subst hu; rfl
        case c3 => unfold maxLen; omega
        case c4 => omega
        case c5 => simp; omega
        intro v' w2 hown' hgrow _
        have R := HS.out v' w2 hown'
        have hb2 : Below w.heap.size w w2 := (hb.alloc hsz _).grown hgrow (by simp; omega) (fun g hg => (hown.lt g hg).1)
        clear hown' hgrow hown
        go_wp2
        go_roundw
        case rel => exact ⟨k + 1, by omega, by go_num, R, hb2⟩
        case measure => simp [intOf]; omega
      · have hU' : ¬ U (b.toNat : Int) := fun h => hU ((unres_iff b).2 h)
        rw [encB_no hU] at hst
        have HS : Hid (∀ (v : Value) (W : World), W.ownsRow w.heap.size 5 1 v ((encL (s.data.toList.take k)).length + 3) (Lib.byteCells (encL (s.data.toList.take k)) ++ [.int .u8 37, .int .u8 (hexN ((b.toNat : Int) / 16).toNat : Int), .int .u8 (hexN ((b.toNat : Int) % 16).toNat : Int)]) → W.ownsRow w.heap.size 5 1 v (encL (s.data.toList.take (k + 1))).length (Lib.byteCells (encL (s.data.toList.take (k + 1))))) := by
          intro v W h
          rw [hst, ← cells_pct, List.length_append]
          simpa using h
        have hc0 : 0 ≤ (b.toNat : Int) := by omega
        generalize (b.toNat : Int) = c at hU' hix0 hc1 HS hc0
        clear hst hU hbk hl hll hlen
        go_wp2_with fail
        refine (unres_no c _ hU').mono ?_
        rintro e w2 ⟨rfl, rfl⟩
        clear hU'
        go_wp2_with fail
        refine (hex_any (c / 16) _ (by omega) (by omega)).mono ?_
        rintro e w2 ⟨rfl, rfl⟩
        go_wp2_with fail
        refine (hex_any (c % 16) _ (by omega) (by omega)).mono ?_
        rintro e w2 ⟨rfl, rfl⟩
        generalize (hexN (c / 16).toNat : Int) = x1 at HS
        generalize (hexN (c % 16).toNat : Int) = x2 at HS
        go_wp2_with (at_builtin; refine wpList_append_own _ rfl _ _ 31 rfl w.heap.size 5 i0 (.int .u8 0) 1 1 Yba.underlying31 hi hz0 hz1 hz2 rfl (by decide) _ _ _ rfl (hown.alloc _) ⟨_, 0, none⟩ 3 3 [.int .u8 37, .int .u8 x1, .int .u8 x2] rfl rfl ?d1 ?d2 ?d3 ?d4 ?d5 ?_)
        case d1 =>
          intro j u hj
          match j, hj with
          | 0, hj => simp at hj; subst hj; simp [Addr.add]
          | 1, hj => simp at hj; subst hj; simp [Addr.add]
          | 2, hj => simp at hj; subst hj; simp [Addr.add]
        case d2 =>
          intro u hu
          simp at hu
          rcases hu with rfl | rfl | rfl <;> rfl
        case d3 => unfold maxLen; omega
        case d4 => omega
        case d5 => simp; omega
        intro v' w2 hown' hgrow _
        have R := HS.out v' w2 hown'
        have hb2 : Below w.heap.size w w2 := (hb.alloc hsz _).grown hgrow (by simp; omega) (fun g hg => (hown.lt g hg).1)
        clear hown' hgrow hown
        go_wp2
        go_roundw
        case rel => exact ⟨k + 1, by omega, by go_num, R, hb2⟩
        case measure => simp [intOf]; omega
    · have e1 : s.data.toList.take k = s.data.toList := List.take_of_length_le (by omega)
      rw [e1] at hown
      clear e1 hll hlen hlen2
      go_wp2_with fail
      have hcv0 := fun n => conv_own (owns_draws hown n)
      have hcv1 := conv_own hown.drew
      go_region_with (go_at_call 13; refine (pct_any s _ hs).mono ?_; rintro e w2 ⟨rfl, hb2⟩; have hcv2 := conv_own (owns_below (w := wr.drew) hown.drew hb2))
      all_goals
        go_wp2
        go_ret
        refine ⟨ret_bool (by simp), hb.trans (Below.trans (b := wr.drew) ⟨rfl, rfl, rfl, Nat.le_refl _, fun _ _ => rfl⟩ (Below.mono ?_ hsz))⟩
        assumption
end Go.Proofs.Ybulkcnke
