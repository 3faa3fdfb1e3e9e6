/-
  LawS4463CDecode: the walk.
-/
import Derived.Test.YbulkcnkeModelWalk
namespace Go.Proofs.Ybulkcnke
open Go.RowKit

set_option maxHeartbeats 800000 in
theorem unhex_hex (d : Nat) (w : World) (hd : d < 16) :
    Calls Yba.prog 14 #[.int .u8 (hexN d : Int)] w fun e w' => e = .returned (.int .i64 (d : Int)) ∧ w' = w := by
  by_cases h : d < 10
  · have e : (hexN d : Int) = 48 + d := by unfold hexN; rw [if_pos h]; omega
    rw [e]
    go_enter Yba.func14, Yba.ntmps14
    go_wp2
    go_ret
    exact ⟨by go_num, rfl⟩
  · have e : (hexN d : Int) = 55 + d := by unfold hexN; rw [if_neg h]; omega
    rw [e]
    go_enter Yba.func14, Yba.ntmps14
    go_wp2
    go_ret
    exact ⟨by go_num, rfl⟩

theorem pct_some (s : ByteArray) (w : World) (hs : s.size ≤ 4096) :
    Calls Yba.prog 13 #[.string s] w fun e w' => (∃ r : ByteArray, e = .returned (.string r) ∧ r.data.toList = encL s.data.toList) ∧ Below w.heap.size w w' :=
  (pct_any s w hs).mono fun _ _ ⟨he, hb⟩ => ⟨⟨_, he, by simp⟩, hb⟩

/-- r[i] where the byte there is known -/
theorem run_index_of (r : ByteArray) (i : Int) (n : Nat) (hi : i = (n : Int)) (c : UInt8) (h : r.data.toList[n]? = some c) (W : World) :
    (Instr.index 9 (.string r) (.int .i64 i)).run Yba.prog W = .ok (.int .u8 (c.toNat : Int)) W := by
  subst hi
  obtain ⟨h1, h2⟩ := List.getElem?_eq_some_iff.1 h
  have h3 : n < r.size := by simpa using h1
  rw [run_index_at r n h3 W]
  have : r[n] = c := by rw [← h2]; rfl
  rw [this]

set_option maxRecDepth 100000 in
set_option maxHeartbeats 1600000 in
theorem decode_walk (s : ByteArray) (w : World) (hs : s.size ≤ 4096) :
    Calls Yba.prog 6 #[.string s] w fun e w' => e = .returned (.bool true) ∧ Below w.heap.size w w' := by
  obtain ⟨i0, hi, hz0, hz1, hz2⟩ := info_parts info5
  have hs' : ¬ (4096 : Int) < s.size := by omega
  go_enter Yba.func6, Yba.ntmps6
  go_wp2_with fail
  refine (pct_some s _ hs).mono ?_
  rintro e w0 ⟨⟨r, rfl, hr⟩, hb0⟩
  have HR : Hid (r.data.toList = encL s.data.toList) := hr
  have hsz0 := hb0.size
  clear hr
  go_wp2_with (at_make; refine wpList_make_own _ rfl _ _ 31 rfl w.heap.size 5 i0 (.int .u8 0) 1 Yba.underlying31 hi hz0 hz1 .i64 .i64 _ s.size rfl rfl rfl (by rw [hz2]; omega) (by unfold maxLen; omega) hsz0 ?_; intro w1 hown hgrow)
  have hb1 : Below w.heap.size w w1 := hb0.grown hgrow hsz0 (by simp)
  clear hgrow hb0 hsz0
  go_loopw [4, 5] (fun v i wr => ∃ j : Nat, j ≤ s.size ∧ i = .int .i64 ((encL (s.data.toList.take j)).length : Int) ∧ wr.ownsRow w.heap.size 5 1 v j (Lib.byteCells (s.data.toList.take j)) ∧ Below w.heap.size w wr)
    (fun _ i _ => r.size - (intOf i).toNat)
  case atStart => exact ⟨0, Nat.zero_le _, rfl, hown, hb1⟩
  case round =>
    clear hown hb1
    obtain ⟨j, hj, rfl, hown, hb⟩ := hrel
    have hsz := hb.size
    have hll : s.data.toList.length = s.size := by simp
    have hrs : r.size = (encL s.data.toList).length := by rw [← HR.out]; simp
    by_cases hlt : j < s.size
    · have hl : j < s.data.toList.length := by omega
      obtain ⟨b, hbk⟩ : ∃ b : UInt8, b = s.data.toList[j] := ⟨_, rfl⟩
      have hst : encL (s.data.toList.take (j + 1)) = encL (s.data.toList.take j) ++ encB b := by rw [encL_take_succ _ j hl, hbk]
      have hsp := encL_split s.data.toList j hl
      rw [← hbk] at hsp
      have hlr := encL_len s.data.toList
      have htk : s.data.toList.take (j + 1) = s.data.toList.take j ++ [b] := by rw [List.take_succ_eq_append_getElem hl, hbk]
      generalize hp : encL (s.data.toList.take j) = pre at hst hsp
      have hlen : r.size = pre.length + (encB b).length + (encL (s.data.toList.drop (j + 1))).length := by
        rw [hrs, hsp]; simp; omega
      have hc1 : (b.toNat : Int) ≤ 255 := by have := UInt8.toNat_lt b; omega
      have HO : Hid (∀ (v : Value) (W : World), W.ownsRow w.heap.size 5 1 v (j + 1) (Lib.byteCells (s.data.toList.take j) ++ [.int .u8 (b.toNat : Int)]) → W.ownsRow w.heap.size 5 1 v (j + 1) (Lib.byteCells (s.data.toList.take (j + 1)))) := by
        intro v W h
        rw [htk, ← cells_snoc]
        exact h
      have hat : ∀ n : Nat, r.data.toList[n]? = (pre ++ (encB b ++ encL (s.data.toList.drop (j + 1))))[n]? := fun n => by rw [HR.out, hsp]
      by_cases hU : unres b = true
      · have hU' := (unres_iff b).1 hU
        rw [encB_yes hU] at hst hlen hat
        have hix := run_index_of r (pre.length : Int) pre.length rfl b (by rw [hat]; simp)
        have HL : Hid ((encL (s.data.toList.take (j + 1))).length = pre.length + 1) := by
          show _ = _
          rw [hst]; simp
        have hne : ((b.toNat : Int) == 37) = false := by unfold U at hU'; simp; omega
        have hlt2 : (pre.length : Int) < r.size := by simp at hlen; omega
        have hrl : (r.size : Int) ≤ 20000 := by omega
        generalize (b.toNat : Int) = c at hU' hix hc1 HO hne
        clear hst hU hbk hl hll hsp hat htk hrs hlr hlen
        go_wp2_with fail
        refine (unres_yes c _ hU').mono ?_
        rintro e w2 ⟨rfl, rfl⟩
        go_wp2_with (at_builtin; refine wpList_append_own _ rfl _ _ 31 rfl w.heap.size 5 i0 (.int .u8 0) 1 1 Yba.underlying31 hi hz0 hz1 hz2 rfl (by decide) _ _ _ rfl (hown.alloc _) ⟨_, 0, none⟩ 1 1 [.int .u8 c] rfl rfl ?c1 ?c2 ?c3 ?c4 ?c5 ?_)
        case c1 => exact cell_one_new _ _ _
        case c2 => intro u hu; simp at hu; subst hu; rfl
        case c3 => unfold maxLen; omega
        case c4 => omega
        case c5 => simp; omega
        intro v' w2 hown' hgrow _
        have R := HO.out v' w2 hown'
        have hb2 : Below w.heap.size w w2 := (hb.alloc hsz _).grown hgrow (by simp; omega) (fun g hg => (hown.lt g hg).1)
        clear hown' hgrow hown
        go_wp2
        go_roundw
        case rel => exact ⟨j + 1, by omega, by rw [HL.out]; go_num, R, hb2⟩
        case measure => simp [intOf]; omega
      · have hU' : ¬ U (b.toNat : Int) := fun h => hU ((unres_iff b).2 h)
        rw [encB_no hU] at hst hlen hat
        have hbl := UInt8.toNat_lt b
        have hx0 := run_index_of r (pre.length : Int) pre.length rfl 37 (by rw [hat]; simp)
        have hx1 := run_index_of r ((pre.length : Int) + 1) (pre.length + 1) (by omega) (hexB (b.toNat / 16)) (by rw [hat]; simp)
        have hx2 := run_index_of r ((pre.length : Int) + 2) (pre.length + 2) (by omega) (hexB (b.toNat % 16)) (by rw [hat]; simp)
        rw [hexB_toNat _ (by omega)] at hx1 hx2
        have e37 : (((37 : UInt8).toNat : Nat) : Int) = 37 := rfl
        rw [e37] at hx0
        have HL : Hid ((encL (s.data.toList.take (j + 1))).length = pre.length + 3) := by
          show _ = _
          rw [hst]; simp
        have hlt2 : (pre.length : Int) < r.size := by simp at hlen; omega
        have hlt3 : (pre.length : Int) + 2 < r.size := by simp at hlen; omega
        have hq0 : ((b.toNat / 16 : Nat) : Int) ≤ 15 := by omega
        have hq1 : ((b.toNat % 16 : Nat) : Int) ≤ 15 := by omega
        have hbr : ((b.toNat / 16 : Nat) : Int) * 16 + ((b.toNat % 16 : Nat) : Int) = (b.toNat : Int) := by omega
        have hq2 : b.toNat / 16 < 16 := by omega
        have hq3 : b.toNat % 16 < 16 := by omega
        generalize (b.toNat : Int) = c at hU' hc1 HO hbr
        generalize b.toNat / 16 = d1 at hx1 hq0 hbr hq2
        generalize b.toNat % 16 = d2 at hx2 hq1 hbr hq3
        have hrl : (r.size : Int) ≤ 20000 := by omega
        clear hst hU hbk hl hll hsp hat htk hrs hlr hlen e37 hbl
        have hsum : (d1 : Int) * 16 + d2 ≤ 255 := by omega
        have HBR : Hid ((d1 : Int) * 16 + d2 = c) := hbr
        clear hbr
        go_wp2_with fail
        refine (unhex_hex d1 _ hq2).mono ?_
        rintro e w2 ⟨rfl, rfl⟩
        go_wp2_with fail
        refine (unhex_hex d2 _ hq3).mono ?_
        rintro e w2 ⟨rfl, rfl⟩
        go_wp2_with fail
        rw [HBR.out]
        refine (unres_no c _ hU').mono ?_
        rintro e w2 ⟨rfl, rfl⟩
        go_wp2_with (at_builtin; refine wpList_append_own _ rfl _ _ 31 rfl w.heap.size 5 i0 (.int .u8 0) 1 1 Yba.underlying31 hi hz0 hz1 hz2 rfl (by decide) _ _ _ rfl (hown.alloc _) ⟨_, 0, none⟩ 1 1 [.int .u8 c] rfl rfl ?d1 ?d2 ?d3 ?d4 ?d5 ?_)
        case d1 => exact cell_one_new _ _ _
        case d2 => intro u hu; simp at hu; subst hu; rfl
        case d3 => unfold maxLen; omega
        case d4 => omega
        case d5 => simp; omega
        intro v' w2 hown' hgrow _
        have R := HO.out v' w2 hown'
        have hb2 : Below w.heap.size w w2 := (hb.alloc hsz _).grown hgrow (by simp; omega) (fun g hg => (hown.lt g hg).1)
        clear hown' hgrow hown
        go_wp2
        go_roundw
        case rel => exact ⟨j + 1, by omega, by rw [HL.out]; go_num, R, hb2⟩
        case measure => simp [intOf]; omega
    · have e1 : s.data.toList.take j = s.data.toList := List.take_of_length_le (by omega)
      have hjs : j = s.data.toList.length := by omega
      rw [e1, hjs] at hown
      have hcv := conv_own hown
      have hge : ¬ ((encL (s.data.toList.take j)).length : Int) < r.size := by rw [e1]; omega
      have hbe : ((⟨s.data.toList.toArray⟩ : ByteArray).toList == s.toList) = true := by simp
      clear e1 hll hrs hjs hown
      go_wp2
      go_ret
      exact ⟨rfl, hb⟩
end Go.Proofs.Ybulkcnke
