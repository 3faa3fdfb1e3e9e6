/-
  percentEncode and the small helpers, by their contracts.
-/
import Derived.Test.YbulkcnkeRows
import Derived.Test.YbulkcnkeShelf
import Derived.Test.YbulkcnkePctPlain
import Derived.WalkKit
import Derived.WalkSpells
import Derived.WalkLawsBesides
import Derived.Laws.BitsLemmas
namespace Go.Proofs.Ybulkcnke
open Go.RowKit

set_option maxHeartbeats 800000 in
theorem unres_yes (c : Int) (w : World) (hU : U c) :
    Calls Yba.prog 11 #[.int .u8 c] w fun e w' => e = .returned (.bool true) ∧ w' = w := by
  rcases hU with ⟨h1, h2⟩ | ⟨h1, h2⟩ | ⟨h1, h2⟩ | rfl | rfl | rfl | rfl
  all_goals
    go_enter Yba.func11, Yba.ntmps11
    go_wp2
    go_ret
    exact ⟨rfl, rfl⟩

set_option maxHeartbeats 800000 in
theorem unres_no (c : Int) (w : World) (hU : ¬ U c) :
    Calls Yba.prog 11 #[.int .u8 c] w fun e w' => e = .returned (.bool false) ∧ w' = w := by
  have e1 : (c == 45) = false := by unfold U at hU; simp; omega
  have e2 : (c == 46) = false := by unfold U at hU; simp; omega
  have e3 : (c == 95) = false := by unfold U at hU; simp; omega
  have e4 : (c == 126) = false := by unfold U at hU; simp; omega
  have hcase : c < 48 ∨ (58 ≤ c ∧ c < 65) ∨ (91 ≤ c ∧ c < 97) ∨ 123 ≤ c := by unfold U at hU; omega
  clear hU
  rcases hcase with h1 | ⟨h1, h2⟩ | ⟨h1, h2⟩ | h1
  all_goals
    go_enter Yba.func11, Yba.ntmps11
    go_wp2
    go_ret
    exact ⟨rfl, rfl⟩

set_option maxHeartbeats 800000 in
theorem hex_any (d : Int) (w : World) (h0 : 0 ≤ d) (h1 : d < 16) :
    Calls Yba.prog 12 #[.int .u8 d] w fun e w' => e = .returned (.int .u8 (hexN d.toNat)) ∧ w' = w := by
  by_cases h : d < 10
  · have e : (hexN d.toNat : Int) = 48 + d := by unfold hexN; rw [if_pos (by omega)]; omega
    rw [e]
    go_enter Yba.func12, Yba.ntmps12
    go_wp2
    go_ret
    exact ⟨rfl, rfl⟩
  · have e : (hexN d.toNat : Int) = 65 + d - 10 := by unfold hexN; rw [if_neg (by omega)]; omega
    rw [e]
    go_enter Yba.func12, Yba.ntmps12
    go_wp2
    go_ret
    exact ⟨rfl, rfl⟩


/-- s[k] of a string, for the walk to take -/
theorem run_index_at (s : ByteArray) (k : Nat) (h : k < s.size) (W : World) :
    (Instr.index 9 (.string s) (.int .i64 (k : Int))).run Yba.prog W = .ok (.int .u8 (s[k].toNat : Int)) W := by
  rw [run_index_string W 9 s .i64 (k : Int) Yba.underlying9]
  simp [h]

def hexS : ByteArray := ⟨#[48, 49, 50, 51, 52, 53, 54, 55, 56, 57, 65, 66, 67, 68, 69, 70]⟩
theorem hexS_at : ∀ d : Fin 16, ((hexS.data.toList.getD d.val 0).toNat) = hexN d.val := by decide +kernel

theorem run_index_hex (d : Int) (h0 : 0 ≤ d) (h1 : d < 16) (W : World) :
    (Instr.index 9 (.string ⟨#[48, 49, 50, 51, 52, 53, 54, 55, 56, 57, 65, 66, 67, 68, 69, 70]⟩) (.int .u8 d)).run Yba.prog W = .ok (.int .u8 (hexN d.toNat : Int)) W := by
  have hsz : hexS.size = 16 := rfl
  have e := hexS_at ⟨d.toNat, by omega⟩
  have hd : d.toNat < hexS.size := by omega
  show (Instr.index 9 (.string hexS) (.int .u8 d)).run Yba.prog W = _
  rw [run_index_string W 9 hexS .u8 d Yba.underlying9, dif_pos ⟨h0, by omega⟩]
  have e2 : hexS.data.toList.getD d.toNat 0 = hexS[d.toNat] := by
    have hd2 : d.toNat < hexS.data.toList.length := by simpa using hd
    rw [List.getD_eq_getElem?_getD, List.getElem?_eq_getElem hd2]
    rfl
  rw [← e, ← e2]

theorem cells_snoc (l : List UInt8) (b : UInt8) : Lib.byteCells l ++ [Value.int .u8 (b.toNat : Int)] = Lib.byteCells (l ++ [b]) := by simp [Lib.byteCells]

theorem cells_pct (l : List UInt8) (b : UInt8) :
    Lib.byteCells l ++ [Value.int .u8 37] ++ [Value.int .u8 (hexN ((b.toNat : Int) / 16).toNat : Int)] ++ [Value.int .u8 (hexN ((b.toNat : Int) % 16).toNat : Int)] = Lib.byteCells (l ++ [37, hexB (b.toNat / 16), hexB (b.toNat % 16)]) := by
  have h := UInt8.toNat_lt b
  have e1 : ((b.toNat : Int) / 16).toNat = b.toNat / 16 := by omega
  have e2 : ((b.toNat : Int) % 16).toNat = b.toNat % 16 := by omega
  rw [e1, e2]
  have h1 := hexB_toNat (b.toNat / 16) (by omega)
  have h2 := hexB_toNat (b.toNat % 16) (by omega)
  simp [Lib.byteCells, h1, h2]

theorem ret_str {a b : List UInt8} (h : a = b) : Ending.returned (.string ⟨a.toArray⟩) = .returned (.string ⟨b.toArray⟩) := by rw [h]

set_option maxHeartbeats 3200000 in
/-- percentEncode: the bytes of encL. (Eleven ways through the round, each walked by itself.) -/
theorem pct_any (s : ByteArray) (w : World) (hs : s.size ≤ 4096) :
    Calls Yba.prog 13 #[.string s] w fun e w' => e = .returned (.string ⟨(encL s.data.toList).toArray⟩) ∧ Below w.heap.size w w' := by
  go_enter Yba.func13, Yba.ntmps13
  go_wp2
  go_loopw [4] (fun i wr => ∃ k : Nat, k ≤ s.size ∧ i = .int .i64 k ∧ Lib.IsBuilder 71 5 w.heap.size w.heap.size (Lib.byteCells (encL (s.data.toList.take k))) wr ∧ Below w.heap.size w wr)
    (fun i _ => s.size - (intOf i).toNat)
  case atStart => exact ⟨0, Nat.zero_le _, rfl, Lib.fresh_isBuilder 71 5 w, (Below.refl _ _).alloc (Nat.le_refl _) _⟩
  case round =>
    obtain ⟨k, hk, rfl, hB, hb⟩ := hrel
    have hsz := hb.size
    have hlen := encL_take_len s.data.toList k
    have hll : s.data.toList.length = s.size := by simp
    have hlen2 : (Lib.byteCells (encL (s.data.toList.take k))).length + 4 ≤ 140737488355328 := by rw [Lib.byteCells_length]; omega
    by_cases hlt : k < s.size
    · have hl : k < s.data.toList.length := by omega
      obtain ⟨b, hbk⟩ : ∃ b : UInt8, b = s[k] := ⟨_, rfl⟩
      have hst : encL (s.data.toList.take (k + 1)) = encL (s.data.toList.take k) ++ encB b := by rw [encL_take_succ _ k hl, hbk]; rfl
      have hix0 := run_index_at s k hlt
      rw [← hbk] at hix0
      have hc1 : (b.toNat : Int) ≤ 255 := by have := UInt8.toNat_lt b; omega
      by_cases hU : unres b = true
      · have hU' := (unres_iff b).1 hU
        rw [encB_yes hU] at hst
        have HS : Hid (Lib.byteCells (encL (s.data.toList.take k)) ++ [Value.int .u8 (b.toNat : Int)] = Lib.byteCells (encL (s.data.toList.take (k + 1)))) := by
          show _ = _
          rw [hst]; exact cells_snoc _ _
        generalize (b.toNat : Int) = c at hU' hix0 hc1 HS
        clear hst hU hbk hl hll hlen
        have hin : ∀ w1, Lib.BuilderAt 71 5 w.heap.size w.heap.size (.pointer (some ⟨w.heap.size, 0, none⟩)) (Lib.byteCells (encL (s.data.toList.take k)) ++ [.int .u8 c]) w1 → Lib.IsBuilder 71 5 w.heap.size w.heap.size (Lib.byteCells (encL (s.data.toList.take (k + 1)))) w1 := fun w1 h => by rw [HS.out] at h; exact Or.inr h
        have HIN : Hid _ := hin
        clear hin HS
        rcases hU' with ⟨h1, h2⟩ | ⟨h1, h2⟩ | ⟨h1, h2⟩ | rfl | rfl | rfl | rfl
        all_goals
          go_wp2_with fail
          refine (Yba.Builder_WriteByte _ _ _ _ _ hB (by omega) (by omega)).mono ?_
          rintro e w1 ⟨rfl, hB1, hb1⟩
          have HB1 := HIN.out w1 hB1
          clear hB hB1
          go_wp2
          go_roundw
          case rel => exact ⟨k + 1, by omega, by go_num, HB1, hb.trans hb1⟩
          case measure => simp [intOf]; omega
      · have hU' : ¬ U (b.toNat : Int) := fun h => hU ((unres_iff b).2 h)
        rw [encB_no hU] at hst
        have HS : Hid (Lib.byteCells (encL (s.data.toList.take k)) ++ [Value.int .u8 37] ++ [Value.int .u8 (hexN ((b.toNat : Int) / 16).toNat : Int)] ++ [Value.int .u8 (hexN ((b.toNat : Int) % 16).toNat : Int)] = Lib.byteCells (encL (s.data.toList.take (k + 1)))) := by
          show _ = _
          rw [hst]; exact cells_pct _ _
        have hc0 : 0 ≤ (b.toNat : Int) := by omega
        generalize (b.toNat : Int) = c at hU' hix0 hc1 HS hc0
        clear hst hU hbk hl hll hlen
        have hin : ∀ w1, Lib.BuilderAt 71 5 w.heap.size w.heap.size (.pointer (some ⟨w.heap.size, 0, none⟩)) (Lib.byteCells (encL (s.data.toList.take k)) ++ [Value.int .u8 37] ++ [Value.int .u8 (hexN (c / 16).toNat : Int)] ++ [.int .u8 (hexN (c % 16).toNat : Int)]) w1 → Lib.IsBuilder 71 5 w.heap.size w.heap.size (Lib.byteCells (encL (s.data.toList.take (k + 1)))) w1 := fun w1 h => by rw [HS.out] at h; exact Or.inr h
        have HIN : Hid _ := hin
        clear hin HS
        have e1 : (c == 45) = false := by unfold U at hU'; simp; omega
        have e2 : (c == 46) = false := by unfold U at hU'; simp; omega
        have e3 : (c == 95) = false := by unfold U at hU'; simp; omega
        have e4 : (c == 126) = false := by unfold U at hU'; simp; omega
        have hcase : c < 48 ∨ (58 ≤ c ∧ c < 65) ∨ (91 ≤ c ∧ c < 97) ∨ 123 ≤ c := by unfold U at hU'; omega
        have hand : bits .and .u8 c 15 = c % 16 := u8_and15 c hc0 (by omega)
        have hx1 := run_index_hex (c / 16) (by omega) (by omega)
        have hx2 := run_index_hex (c % 16) (by omega) (by omega)
        clear hU'
        rcases hcase with h1 | ⟨h1, h2⟩ | ⟨h1, h2⟩ | h1
        all_goals
          go_wp2_with fail
          refine (Yba.Builder_WriteByte _ _ _ _ _ hB (by omega) (by omega)).mono ?_
          rintro e w1 ⟨rfl, hB1, hb1⟩
          have hs1 := hb1.size
          clear hB
          go_wp2_with fail
          refine (Yba.Builder_WriteByte _ _ _ _ _ (Or.inr hB1) (by simp; omega) (by omega)).mono ?_
          rintro e w2 ⟨rfl, hB2, hb2⟩
          have hs2 := hb2.size
          clear hB1
          go_wp2_with fail
          refine (Yba.Builder_WriteByte _ _ _ _ _ (Or.inr hB2) (by simp; omega) (by omega)).mono ?_
          rintro e w3 ⟨rfl, hB3, hb3⟩
          have HB3 := HIN.out w3 hB3
          clear hB2 hB3
          go_wp2
          go_roundw
          case rel => exact ⟨k + 1, by omega, by go_num, HB3, ((hb.trans hb1).trans hb2).trans hb3⟩
          case measure => simp [intOf]; omega
    · have HS : Hid (encL (s.data.toList.take k) = encL s.data.toList) := by
        show _ = _
        rw [List.take_of_length_le (by omega)]
      clear hll hlen hlen2
      go_wp2_with fail
      refine (Yba.Builder_String_any _ _ _ _ hB hsz).mono ?_
      rintro e w1 ⟨rfl, hb1⟩
      go_wp2
      go_ret
      exact ⟨ret_str HS.out, hb.trans hb1⟩
end Go.Proofs.Ybulkcnke
