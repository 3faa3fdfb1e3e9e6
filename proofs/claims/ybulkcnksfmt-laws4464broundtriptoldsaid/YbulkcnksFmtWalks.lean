/-
  LawS4464BRoundTrip: the walks, for every F.
-/
import Derived.Test.YbulkcnksFmtFacts
import Derived.Test.YbulkcnksFmtShelf
import Derived.WalkKit
import Derived.WalkSpells
import Derived.WalkLawsBesides
import Derived.Laws.BytesArg
import Derived.Laws.IdiomStrings
import Derived.Lib.ItoaLen
import Derived.Lib.AppendIntMem
import Derived.Deep.QuietTactic
import Derived.BigQuiet
namespace Go.Proofs.YbulkcnksFmt
open Go.RowKit Go.Extern.Stop Go.Stop Go.Extern

/-- the seven names -/
def nameOf : Nat → List UInt8
  | 0 => [117, 110, 107, 110, 111, 119, 110]
  | 1 => [115, 101, 110, 116]
  | 2 => [114, 101, 109, 111, 118, 101, 45, 116, 111, 107, 101, 110]
  | 3 => [102, 105, 120, 45, 114, 101, 113, 117, 101, 115, 116]
  | 4 => [102, 105, 120, 45, 99, 114, 101, 100, 101, 110, 116, 105, 97, 108, 115]
  | 5 => [114, 101, 116, 114, 121, 45, 108, 97, 116, 101, 114]
  | _ => [112, 101, 110, 100, 105, 110, 103]

theorem name_inj : ∀ i : Fin 7, ∀ j : Fin 7, nameOf i.val = nameOf j.val → i = j := by decide +kernel
theorem name_head : ∀ i : Fin 7, (nameOf i.val).head? ≠ some 79 := by decide +kernel

theorem ret_str {a b : List UInt8} (h : a = b) : Ending.returned (.string ⟨a.toArray⟩) = .returned (.string ⟨b.toArray⟩) := by rw [h]

set_option maxHeartbeats 800000 in
theorem string_named (k : Nat) (hk : k ≤ 6) (w : World) :
    Calls Ybaf.prog 5 #[.int .i64 (k : Int)] w fun e w' => e = .returned (.string ⟨(nameOf k).toArray⟩) ∧ w' = w := by
  have h : k = 0 ∨ k = 1 ∨ k = 2 ∨ k = 3 ∨ k = 4 ∨ k = 5 ∨ k = 6 := by omega
  rcases h with h | h | h | h | h | h | h <;> subst h <;>
  · go_enter Ybaf.func5, Ybaf.ntmps5
    go_wp2
    go_ret
    exact ⟨rfl, rfl⟩

/-- what String writes for a value that is none of the seven -/
def other (n : Int) : List UInt8 := [79, 117, 116, 99, 111, 109, 101, 40] ++ Lib.itoa n ++ [41]

theorem cat3 (a b c : List UInt8) : ((⟨a.toArray⟩ : ByteArray) ++ ⟨b.toArray⟩ ++ ⟨c.toArray⟩) = ⟨(a ++ b ++ c).toArray⟩ := by
  apply ByteArray.ext
  simp

set_option maxHeartbeats 800000 in
theorem string_other (n : Int) (w : World) (hn : n < 0 ∨ 6 < n) (h0 : -9223372036854775808 ≤ n) (h1 : n ≤ 9223372036854775807) (htab : Lib.TabIs Ybaf.prog w "internal/strconv.uint64pow10" .u64 Lib.pow10Tab) :
    Calls Ybaf.prog 5 #[.int .i64 n] w fun e w' => e = .returned (.string ⟨(other n).toArray⟩) ∧ Below w.heap.size w w' := by
  have hl : (Lib.itoa n).length ≤ 21 := Lib.itoa_length_le n h0 h1
  have e0 : (n == 0) = false := by simp; omega
  have e1 : (n == 1) = false := by simp; omega
  have e2 : (n == 2) = false := by simp; omega
  have e3 : (n == 3) = false := by simp; omega
  have e4 : (n == 4) = false := by simp; omega
  have e5 : (n == 5) = false := by simp; omega
  have e6 : (n == 6) = false := by simp; omega
  go_enter Ybaf.func5, Ybaf.ntmps5
  go_wp2_with (go_at_call 7; refine (Ybaf.strconv_Itoa n h0 h1 _ htab).mono ?_; rintro e w' ⟨rfl, k, os, rfl⟩)
  go_ret
  exact ⟨congrArg (fun s => Ending.returned (.string s)) (cat3 [79, 117, 116, 99, 111, 109, 101, 40] (Lib.itoa n) [41]), Lib.below_grow _ _ (Nat.le_refl _) _ _⟩


theorem blk_add (a : Addr) (i : Nat) : (a.add i).block = a.block := by unfold Addr.add; split <;> rfl

/-- the bytes l lie at a -/
def BytesAt (a : Addr) (l : List UInt8) (w : World) : Prop := ∀ j (hj : j < l.length), w.cell? (a.add j) = some (.int .u8 (l[j].toNat : Int))

theorem conv_back (a : Addr) (cap : Nat) (l : List UInt8) (w wr : World) (hc : BytesAt a l w) (hw : ∃ n, wr = w.drewN n) (m : Nat) :
    (convert 26 9 (.slice (some a) l.length cap)).run Ybaf.prog (wr.drewN m) = .ok (.string ⟨l.toArray⟩) (wr.drewN m) := by
  obtain ⟨n, rfl⟩ := hw
  exact run_convert_bytes_back (P := Ybaf.prog) _ 26 9 5 a cap l Ybaf.underlying26 Ybaf.underlying5 Ybaf.underlying9 (fun j hj => hc j hj)

theorem drew_more {w wr : World} (h : ∃ n, wr = w.drewN n) (m : Nat) : ∃ n, wr.drewN m = w.drewN n := by
  obtain ⟨n, rfl⟩ := h
  exact ⟨n + m, by rw [World.drewN_drewN]⟩

theorem drew_cell {w wr : World} (h : ∃ n, wr = w.drewN n) (p : Addr) : wr.cell? p = w.cell? p ∧ wr.frozen? p = w.frozen? p := by
  obtain ⟨n, rfl⟩ := h
  exact ⟨rfl, rfl⟩

theorem name_ne (j k : Nat) (hj : j ≤ 6) (hk : k ≤ 6) (h : j ≠ k) : nameOf j ≠ nameOf k := by
  intro e
  have := name_inj ⟨j, by omega⟩ ⟨k, by omega⟩ e
  exact h (by simpa using this)

theorem beq_names (j k : Nat) (hj : j ≤ 6) (hk : k ≤ 6) (h : j ≠ k) : (nameOf j == nameOf k) = false := by
  simp [name_ne j k hj hk h]

set_option maxHeartbeats 800000 in
theorem unmarshal_found (k : Nat) (hk : k ≤ 6) (p a : Addr) (cap : Nat) (v0 : Int) (w : World) (hc : BytesAt a (nameOf k) w) (hp : w.cell? p = some (.int .i64 v0)) (hpf : w.frozen? p = false) :
    Calls Ybaf.prog 4 #[.pointer (some p), .slice (some a) (nameOf k).length cap] w fun e w' => e = .returned .nilIface ∧ ∃ n, w' = (w.drewN n).setCell p (.int .i64 k) := by
  go_enter Ybaf.func4, Ybaf.ntmps4
  go_wp2
  go_loopw [5] (fun v wr => ∃ j : Nat, j ≤ k ∧ v = .int .i64 j ∧ ∃ n, wr = w.drewN n) (fun v _ => k - (intOf v).toNat)
  case atStart => exact ⟨0, Nat.zero_le _, rfl, 0, rfl⟩
  case round =>
    obtain ⟨j, hj, rfl, hw⟩ := hrel
    have hj6 : (j : Int) ≤ 6 := by omega
    have hcv := conv_back a cap (nameOf k) w wr hc hw
    have hpr : wr.cell? p = some (.int .i64 v0) := (drew_cell hw p).1.trans hp
    have hpfr : wr.frozen? p = false := (drew_cell hw p).2.trans hpf
    have HW : Hid (∃ n, wr = w.drewN n) := hw
    clear hw hc hp hpf
    by_cases hjk : j = k
    · subst hjk
      go_wp2_with fail
      go_quiet ((go_at_call 5; exact Calls.quiet_of_same (string_named j (by omega) _)))
      go_wp2
      go_ret
      obtain ⟨n, hn⟩ := drew_more HW.out nq
      exact ⟨rfl, n, by rw [hn]⟩
    · have hb := beq_names j k (by omega) hk hjk
      go_wp2_with fail
      go_quiet ((go_at_call 5; exact Calls.quiet_of_same (string_named j (by omega) _)))
      go_wp2
      go_roundw
      case rel => exact ⟨j + 1, by omega, by go_num, drew_more HW.out _⟩
      case measure => simp [intOf]; omega

theorem op_bytes (a : Addr) (cap : Nat) (l : List UInt8) (w : World) (hc : BytesAt a l w) :
    (FmtStop.operand "fmt.errorf" true 113 false (.iface 26 (.slice (some a) l.length cap))).run Ybaf.prog w = .ok (shape26, 1 :: (digits 8 l.length ++ FmtText.intValues (l.map fun b => (b.toNat : Int)))) w := by
  have h := opBytes "fmt.errorf" a cap (l.map fun b => (b.toNat : Int)) w (by
    intro j v hj
    have hj' : j < l.length := by
      have := (List.getElem?_eq_some_iff.1 hj).1
      simpa using this
    have h2 := hc j hj'
    simp [List.getElem?_eq_getElem hj'] at hj
    subst hj
    rw [← h2])
  simpa using h

attribute [local go_sem] call8 guard fmt1 fmt1r ptrErr elemErr isErr

set_option maxHeartbeats 800000 in
/-- fmt.Errorf at this format and one slice of bytes: a new error, not nil. -/
theorem errorf_some (F : Interp) (l : List UInt8) (b : Nat) (a : Addr) (cap : Nat) (w : World) (hF : F.answers w.tape) (hc : BytesAt a l w) (hb : w.cell? ⟨b, 0, none⟩ = some (.iface 26 (.slice (some a) l.length cap))) :
    Calls Ybaf.prog 6 #[.string ⟨#[112, 117, 115, 104, 58, 32, 37, 113, 32, 105, 115, 32, 110, 111, 116, 32, 97, 110, 32, 111, 117, 116, 99, 111, 109, 101]⟩, .slice (some ⟨b, 0, none⟩) 1 1] w fun e w' => (∃ q, e = .returned (.iface 35 (.pointer (some q)))) ∧ Below w.heap.size w w' := by
  have hF' := answers_open hF
  have hop := op_bytes a cap l w hc
  go_enter Ybaf.func6, Ybaf.ntmps6
  go_wp2
  go_ret
  exact ⟨⟨_, rfl⟩, ((Below.refl _ w).alloc (Nat.le_refl _) _).drew⟩

set_option maxHeartbeats 800000 in
theorem unmarshal_none (F : Interp) (l : List UInt8) (hl : l.head? = some 79) (p a : Addr) (cap : Nat) (w : World) (hF : F.answers w.tape) (hc : BytesAt a l w) (ha : a.block < w.heap.size) :
    Calls Ybaf.prog 4 #[.pointer (some p), .slice (some a) l.length cap] w fun e w' => (∃ q, e = .returned (.iface 35 (.pointer (some q)))) ∧ Below w.heap.size w w' := by
  have hne : ∀ j : Nat, j ≤ 6 → (nameOf j == l) = false := by
    intro j hj
    rw [beq_eq_false_iff_ne]
    intro e
    exact name_head ⟨j, by omega⟩ (by rw [← e] at hl; exact hl)
  go_enter Ybaf.func4, Ybaf.ntmps4
  go_wp2
  go_loopw [5] (fun v wr => ∃ j : Nat, j ≤ 7 ∧ v = .int .i64 j ∧ ∃ n, wr = w.drewN n) (fun v _ => 7 - (intOf v).toNat)
  case atStart => exact ⟨0, Nat.zero_le _, rfl, 0, rfl⟩
  case round =>
    obtain ⟨j, hj, rfl, hw⟩ := hrel
    by_cases hj6 : (j : Int) ≤ 6
    · have hcv := conv_back a cap l w wr hc hw
      have hb := hne j (by omega)
      have HW : Hid (∃ n, wr = w.drewN n) := hw
      clear hw hc hne
      go_wp2_with fail
      go_quiet ((go_at_call 5; exact Calls.quiet_of_same (string_named j (by omega) _)))
      go_wp2
      go_roundw
      case rel => exact ⟨j + 1, by omega, by go_num, drew_more HW.out _⟩
      case measure => simp [intOf]; omega
    · have hbel : Below w.heap.size w wr := by
        obtain ⟨n, rfl⟩ := hw
        exact ⟨rfl, rfl, rfl, Nat.le_refl _, fun _ _ => rfl⟩
      have hcr : BytesAt a l wr := fun j hj => ((drew_cell hw _).1).trans (hc j hj)
      have hFr : F.answers wr.tape := by rw [hbel.tape]; exact hF
      have hsz := hbel.size
      have hbytes : ∀ o : Obj, BytesAt a l (wr.alloc o) := fun o j hj => by
        rw [← hcr j hj]
        exact ((Below.refl _ wr).alloc (Nat.le_refl _) o).cell (p := a.add j) (by rw [blk_add]; omega)
      clear hne hw hc hcr
      go_wp2_with fail
      refine (errorf_some F l wr.heap.size a cap _ (by exact hFr) (by exact hbytes _) (by simp)).mono ?_
      rintro e w1 ⟨⟨q, rfl⟩, hb1⟩
      go_wp2
      go_ret
      exact ⟨⟨q, rfl⟩, (hbel.alloc hsz _).trans (hb1.mono (by simp; omega))⟩

theorem conv_to (l : List UInt8) (w : World) : ∃ (cap : Nat) (C : Array Value) (fr : Nat × Nat),
    (convert 9 26 (.string ⟨l.toArray⟩)).run Ybaf.prog w = .ok (.slice (some ⟨w.heap.size, 0, none⟩) l.length cap) (w.alloc (.cells C 5 fr)).drew ∧
    BytesAt ⟨w.heap.size, 0, none⟩ l (w.alloc (.cells C 5 fr)) := by
  have h := run_bytes_of_string (P := Ybaf.prog) w 9 26 5 ⟨l.toArray⟩ Ybaf.underlying9 Ybaf.underlying26 Ybaf.underlying5
  refine ⟨_, _, _, h, ?_⟩
  intro j hj
  have e : (⟨w.heap.size, 0, none⟩ : Addr).add j = ⟨w.heap.size, j, none⟩ := by unfold Addr.add; split <;> simp_all
  rw [e, World.cell?_alloc_mark, bytesRow, Array.getElem?_append_left (by simpa using hj)]
  simp [hj]

set_option maxHeartbeats 800000 in
theorem law_named (k : Nat) (hk : k ≤ 6) (w : World) :
    Calls Ybaf.prog 3 #[.int .i64 (k : Int)] w fun e w' => e = .returned (.bool true) ∧ Below w.heap.size w w' := by
  have h0 : (0 : Int) ≤ k := by omega
  have h6 : (k : Int) ≤ 6 := by omega
  obtain ⟨cap, C, fr, hcv, hB⟩ := conv_to (nameOf k) (w.alloc (.cells #[.int .i64 99] 22))
  have HB : Hid _ := hB
  clear hB
  go_enter Ybaf.func3, Ybaf.ntmps3
  go_wp2_with (go_at_call 5; refine (string_named k hk _).mono ?_; rintro e w' ⟨rfl, rfl⟩)
  refine (unmarshal_found k hk ⟨w.heap.size, 0, none⟩ ⟨w.heap.size + 1, 0, none⟩ cap 99 _ (by have := HB.out; rw [World.size_alloc] at this; exact this) (by simp) (by simp)).mono ?_
  rintro e w2 ⟨rfl, n, hw2⟩
  have hb2 : Below w.heap.size w w2 := by
    rw [hw2]
    refine Below.setCell ?_ (by simp) _
    exact ((((Below.refl _ w).alloc (Nat.le_refl _) _).alloc (by simp) _).drew).trans ⟨rfl, rfl, rfl, Nat.le_refl _, fun _ _ => rfl⟩
  have hc2 : w2.cell? ⟨w.heap.size, 0, none⟩ = some (.int .i64 (k : Int)) := by
    rw [hw2]
    exact World.cell?_setCell_same (u := .int .i64 99) _ _ _ (by simp)
  clear hw2 hcv HB
  go_wp2
  go_ret
  exact ⟨rfl, hb2⟩

set_option maxHeartbeats 800000 in
theorem law_other (F : Interp) (n : Int) (w : World) (hF : F.answers w.tape) (hn : n < 0 ∨ 6 < n) (h0 : -9223372036854775808 ≤ n) (h1 : n ≤ 9223372036854775807) (htab : Lib.TabIs Ybaf.prog w "internal/strconv.uint64pow10" .u64 Lib.pow10Tab) :
    Calls Ybaf.prog 3 #[.int .i64 n] w fun e w' => e = .returned (.bool true) ∧ Below w.heap.size w w' := by
  rcases hn with hn | hn
  · have hd : decide (0 ≤ n) = false := by simp; omega
    have hn' : ¬ 0 ≤ n := by omega
    go_enter Ybaf.func3, Ybaf.ntmps3
    go_wp2_with fail
    refine (string_other n _ (Or.inl hn) h0 h1 (Lib.tabIs_alloc htab _)).mono ?_
    rintro e w1 ⟨rfl, hb1⟩
    have hc1 : w1.cell? ⟨w.heap.size, 0, none⟩ = some (.int .i64 99) := (hb1.cell (by simp)).trans (by simp)
    have hz1 : w.heap.size < w1.heap.size := by have := hb1.size; simp at this; omega
    have hbw : Below w.heap.size w w1 := ((Below.refl _ w).alloc (Nat.le_refl _) _).trans (hb1.mono (by simp))
    obtain ⟨cap, C, fr, hcv, hB⟩ := conv_to (other n) w1
    have HB : Hid _ := hB
    clear hB hb1
    go_wp2_with fail
    refine (unmarshal_none F (other n) rfl ⟨w.heap.size, 0, none⟩ ⟨w1.heap.size, 0, none⟩ cap _ (by show F.answers w1.tape; rw [hbw.tape]; exact hF) (by exact HB.out) (by simp)).mono ?_
    rintro e w2 ⟨⟨q, rfl⟩, hb2⟩
    have hb2' : Below w.heap.size w w2 := ((hbw.alloc (by omega) _).drew).trans (hb2.mono (by simp; omega))
    have hc2 : w2.cell? ⟨w.heap.size, 0, none⟩ = some (.int .i64 99) := (hb2.cell (by simp; omega)).trans (((((Below.refl _ w1).alloc (Nat.le_refl _) _).drew).cell (by exact hz1)).trans hc1)
    clear hcv HB hb2
    go_wp2
    go_ret
    exact ⟨rfl, hb2'⟩
  · have hd : decide (n ≤ 6) = false := by simp; omega
    have hd0 : 0 ≤ n := by omega
    have hn' : ¬ n ≤ 6 := by omega
    go_enter Ybaf.func3, Ybaf.ntmps3
    go_wp2_with fail
    refine (string_other n _ (Or.inr hn) h0 h1 (Lib.tabIs_alloc htab _)).mono ?_
    rintro e w1 ⟨rfl, hb1⟩
    have hc1 : w1.cell? ⟨w.heap.size, 0, none⟩ = some (.int .i64 99) := (hb1.cell (by simp)).trans (by simp)
    have hz1 : w.heap.size < w1.heap.size := by have := hb1.size; simp at this; omega
    have hbw : Below w.heap.size w w1 := ((Below.refl _ w).alloc (Nat.le_refl _) _).trans (hb1.mono (by simp))
    obtain ⟨cap, C, fr, hcv, hB⟩ := conv_to (other n) w1
    have HB : Hid _ := hB
    clear hB hb1
    go_wp2_with fail
    refine (unmarshal_none F (other n) rfl ⟨w.heap.size, 0, none⟩ ⟨w1.heap.size, 0, none⟩ cap _ (by show F.answers w1.tape; rw [hbw.tape]; exact hF) (by exact HB.out) (by simp)).mono ?_
    rintro e w2 ⟨⟨q, rfl⟩, hb2⟩
    have hb2' : Below w.heap.size w w2 := ((hbw.alloc (by omega) _).drew).trans (hb2.mono (by simp; omega))
    have hc2 : w2.cell? ⟨w.heap.size, 0, none⟩ = some (.int .i64 99) := (hb2.cell (by simp; omega)).trans (((((Below.refl _ w1).alloc (Nat.le_refl _) _).drew).cell (by exact hz1)).trans hc1)
    clear hcv HB hb2
    go_wp2
    go_ret
    exact ⟨rfl, hb2'⟩
end Go.Proofs.YbulkcnksFmt
