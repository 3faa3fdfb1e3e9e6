/-
  The law LawS4462BUnder: both sides write the same bytes.
-/
import Derived.Test.YbulkcnjqDoorDec
import Derived.Test.YbulkcnjqDoorShelf
import Derived.Lib.ItoaLen
import Derived.Lib.AppendIntMem
namespace Go.Proofs.YbulkcnjqDoor
open Go.RowKit

theorem ret_bool {b : Bool} (h : b = true) : Ending.returned (.bool b) = .returned (.bool true) := by rw [h]

/-- the fixed lead of the clause -/
def lead : ByteArray := ⟨#[32, 117, 110, 100, 101, 114, 32, 109, 97, 110, 105, 102, 101, 115, 116, 32, 118, 101, 114, 115, 105, 111, 110, 32]⟩

set_option maxHeartbeats 400000 in
theorem under_zero (w : World) :
    Calls Ybad.prog 8 #[.int .i64 0] w fun e w' => e = .returned (.string ⟨#[]⟩) ∧ w' = w := by
  go_enter Ybad.func8, Ybad.ntmps8
  go_wp2
  go_ret
  exact ⟨rfl, rfl⟩

set_option maxHeartbeats 400000 in
theorem law_zero (w : World) :
    Calls Ybad.prog 4 #[.int .i64 0] w fun e w' => e = .returned (.bool true) ∧ w' = w := by
  go_enter Ybad.func4, Ybad.ntmps4
  go_wp2_with (go_at_call 8; refine (under_zero _).mono ?_; rintro e w' ⟨rfl, rfl⟩)
  go_ret
  exact ⟨rfl, rfl⟩

set_option maxHeartbeats 400000 in
theorem string_any (n : Int) (w : World) (hn : (n == 0) = false) (h0 : -9223372036854775808 ≤ n) (h1 : n ≤ 9223372036854775807) (htab : Lib.TabIs Ybad.prog w "internal/strconv.uint64pow10" .u64 Lib.pow10Tab) :
    Calls Ybad.prog 6 #[.int .i64 n] w fun e w' => e = .returned (.string ⟨(Lib.itoa n).toArray⟩) ∧ Below w.heap.size w w' := by
  go_enter Ybad.func6, Ybad.ntmps6
  go_wp2_with (go_at_call 11; refine (Ybad.strconv_Itoa n h0 h1 _ htab).mono ?_; rintro e w' ⟨rfl, k, os, rfl⟩)
  go_ret
  exact ⟨rfl, Lib.below_grow _ _ (Nat.le_refl _) _ _⟩

set_option maxHeartbeats 400000 in
theorem under_any (n : Int) (w : World) (hn : (n == 0) = false) (h0 : -9223372036854775808 ≤ n) (h1 : n ≤ 9223372036854775807) (htab : Lib.TabIs Ybad.prog w "internal/strconv.uint64pow10" .u64 Lib.pow10Tab) :
    Calls Ybad.prog 8 #[.int .i64 n] w fun e w' => e = .returned (.string (lead ++ ⟨(Lib.itoa n).toArray⟩)) ∧ Below w.heap.size w w' := by
  have hl : (Lib.itoa n).length ≤ 21 := Lib.itoa_length_le n h0 h1
  go_enter Ybad.func8, Ybad.ntmps8
  go_wp2_with (go_at_call 6; refine (string_any n _ hn h0 h1 htab).mono ?_; rintro e w' ⟨rfl, hb⟩)
  go_ret
  exact ⟨rfl, hb⟩

set_option maxHeartbeats 400000 in
theorem law_any (n : Int) (w : World) (hn : (n == 0) = false) (h0 : -9223372036854775808 ≤ n) (h1 : n ≤ 9223372036854775807) (htab : Lib.TabIs Ybad.prog w "internal/strconv.uint64pow10" .u64 Lib.pow10Tab) :
    Calls Ybad.prog 4 #[.int .i64 n] w fun e w' => e = .returned (.bool true) ∧ Below w.heap.size w w' := by
  have hl : (Lib.itoa n).length ≤ 21 := Lib.itoa_length_le n h0 h1
  go_enter Ybad.func4, Ybad.ntmps4
  go_wp2_with (first | (go_at_call 8; refine (under_any n _ hn h0 h1 htab).mono ?_; rintro e w' ⟨rfl, hb⟩) | (go_at_call 7; refine (dec_any n _ (by simpa using hn) h0 h1).mono ?_; rintro e w2 ⟨rfl, hb2⟩))
  go_ret
  exact ⟨ret_bool (by unfold lead; exact beq_self_eq_true _), hb.trans (hb2.mono hb.size)⟩
end Go.Proofs.YbulkcnjqDoor
