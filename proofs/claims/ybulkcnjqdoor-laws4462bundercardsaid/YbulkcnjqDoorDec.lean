/-
  zzs4462bdec writes n in decimal: the same bytes as Lib.itoa.
-/
import Derived.Test.YbulkcnjqDoorRows
import Derived.WalkKit
import Derived.WalkSpells
import Derived.Lib.ItoaNum
import Derived.WalkLawsBesides
import Derived.Laws.BytesArg
import Derived.Laws.IdiomStrings
namespace Go.Proofs.YbulkcnjqDoor
open Go.RowKit

theorem ret_str {a b : List UInt8} (h : a = b) : Ending.returned (.string ⟨a.toArray⟩) = .returned (.string ⟨b.toArray⟩) := by rw [h]

/-- the digits still to be written -/
def digs (m : Nat) : List UInt8 := if m = 0 then [] else Lib.decDigits m

theorem digs_step (m : Nat) (h : m ≠ 0) : digs m = digs (m / 10) ++ [UInt8.ofNat (48 + m % 10)] := by
  unfold digs
  rw [if_neg h]
  by_cases h10 : m < 10
  · have e1 : m / 10 = 0 := by omega
    have e2 : m % 10 = m := by omega
    rw [e1, if_pos rfl, e2, Lib.decDigits_one h10]
    rfl
  · have e1 : m / 10 ≠ 0 := by omega
    rw [if_neg e1]
    conv => lhs; rw [Lib.decDigits, dif_neg h10]

theorem nDigits_le (u : Nat) (h : u < 10 ^ 20) : Lib.nDigits u ≤ 20 := by
  have key : ∀ k u : Nat, u < 10 ^ (k + 1) → Lib.nDigits u ≤ k + 1 := by
    intro k
    induction k with
    | zero => intro u hu; rw [Lib.nDigits_small (by simpa using hu)]; exact Nat.le_refl _
    | succ k ih =>
      intro u hu
      by_cases h10 : u < 10
      · rw [Lib.nDigits_small h10]; omega
      · rw [Lib.nDigits_big h10]
        have : u / 10 < 10 ^ (k + 1) := by
          rw [Nat.pow_succ] at hu
          omega
        have := ih _ this
        omega
  exact key 19 u h

/-- the array's cells from k on hold the bytes t -/
def Tail (B : Nat) (k : Nat) (t : List UInt8) (w : World) : Prop :=
  (∀ j, j < 24 → ∃ v, w.cell? ⟨B, j, none⟩ = some (.int .u8 v)) ∧ (∀ j, w.frozen? ⟨B, j, none⟩ = false) ∧
    k + t.length = 24 ∧ ∀ j (hj : j < t.length), w.cell? ⟨B, k + j, none⟩ = some (.int .u8 (t[j].toNat : Int))

theorem Tail.put {B k : Nat} {t : List UInt8} {w : World} (h : Tail B k t w) (hk : 1 ≤ k) (c : UInt8) :
    Tail B (k - 1) (c :: t) (w.setCell ⟨B, k - 1, none⟩ (.int .u8 (c.toNat : Int))) := by
  obtain ⟨h1, h2, h3, h4⟩ := h
  have hc : ∃ v, w.cell? ⟨B, k - 1, none⟩ = some v := by
    obtain ⟨v, hv⟩ := h1 (k - 1) (by omega)
    exact ⟨_, hv⟩
  obtain ⟨v0, hv0⟩ := hc
  refine ⟨?_, ?_, ?_, ?_⟩
  · intro j hj
    by_cases e : j = k - 1
    · subst e
      exact ⟨_, World.cell?_setCell_same _ _ _ hv0⟩
    · obtain ⟨v, hv⟩ := h1 j hj
      refine ⟨v, ?_⟩
      rw [World.cell?_setCell_other _ _ _ _ (by intro hh; injection hh; omega)]
      exact hv
  · intro j
    rw [World.frozen?_setCell]
    exact h2 j
  · simp; omega
  · intro j hj
    match j, hj with
    | 0, _ => simpa using World.cell?_setCell_same _ _ _ hv0
    | j + 1, hj =>
      have hj' : j < t.length := by simpa using hj
      rw [World.cell?_setCell_other _ _ _ _ (by intro hh; injection hh; omega)]
      have e : k - 1 + (j + 1) = k + j := by omega
      rw [e]
      simpa using h4 j hj'

theorem add_off (B k j : Nat) : (⟨B, k, none⟩ : Addr).add j = ⟨B, k + j, none⟩ := by
  unfold Addr.add
  split <;> simp_all

theorem arr44 : Ybad.prog.arrayLen 44 = 24 := by simp [Program.arrayLen, Ybad.underlying44]

theorem run_tail (B k : Nat) (hk : k < 24) (W : World) :
    (Instr.sliceAt 44 (.pointer (some ⟨B, 0, none⟩)) (some (.int .i64 (k : Int))) none none).run Ybad.prog W = .ok (.slice (some ⟨B, k, none⟩) (24 - k) (24 - k)) W := by
  rw [run_sliceAt_array_l W 44 ⟨B, 0, none⟩ (by simp [Program.arrayLen, Program.elem, Ybad.underlying44]) .i64 (k : Int) (by omega) (by rw [arr44]; omega)]
  have hne : ¬ 24 = k := by omega
  go_simp

theorem Tail.fresh (w : World) (C : Array Value) (t : TypeId) (hC : C = (List.replicate 24 (Value.int .u8 0)).toArray) :
    Tail w.heap.size 24 [] (w.alloc (.cells C t)) := by
  subst hC
  refine ⟨?_, ?_, rfl, ?_⟩
  · intro j hj
    refine ⟨0, ?_⟩
    rw [World.cell?_alloc_mark, List.getElem?_toArray, List.getElem?_replicate, if_pos hj]
  · intro j
    simp
  · intro j hj
    simp at hj

set_option maxHeartbeats 400000 in
theorem dec_pos (n : Int) (w : World) (h0 : 0 < n) (h1 : n ≤ 9223372036854775807) :
    Calls Ybad.prog 7 #[.int .i64 n] w fun e w' => e = .returned (.string ⟨(Lib.decDigits n.toNat).toArray⟩) ∧ Below w.heap.size w w' := by
  have hn : ¬ n < 0 := by omega
  have hz : (n == 0) = false := by simp; omega
  go_enter Ybad.func7, Ybad.ntmps7
  go_wp2
  go_loopw [4, 6] (fun u i wr => ∃ (m k : Nat) (t : List UInt8), (m : Int) ≤ 9223372036854775807 ∧ u = .int .u64 m ∧ i = .int .i64 k ∧ digs m ++ t = Lib.decDigits n.toNat ∧ Tail w.heap.size k t wr ∧ Below w.heap.size w wr ∧ w.heap.size < wr.heap.size)
    (fun u _ _ => (intOf u).toNat)
  case atStart =>
    refine ⟨n.toNat, 24, [], by omega, by go_num, rfl, ?_, Tail.fresh w _ _ rfl, (Below.refl _ _).alloc (Nat.le_refl _) _, by simp⟩
    unfold digs
    rw [if_neg (by omega)]
    simp
  case round =>
    obtain ⟨m, k, t, hm, rfl, rfl, hdig, hT, hb, hsz⟩ := hrel
    have hlen : (digs m).length + t.length ≤ 20 := by
      rw [← List.length_append, hdig, Lib.decDigits_length]
      exact nDigits_le _ (by omega)
    have hkt : k + t.length = 24 := hT.2.2.1
    by_cases hm0 : m = 0
    · subst hm0
      have e : digs 0 ++ t = t := rfl
      rw [e] at hdig
      have htl : 1 ≤ t.length := by rw [hdig, Lib.decDigits_length]; exact Lib.nDigits_pos _
      have hsl := run_tail w.heap.size k (by omega)
      have hcv := run_convert_bytes_back (P := Ybad.prog) wr 26 9 5 ⟨w.heap.size, k, none⟩ (24 - k) t Ybad.underlying26 Ybad.underlying5 Ybad.underlying9 (fun j hj => by rw [add_off]; exact hT.2.2.2 j hj)
      rw [show t.length = 24 - k by omega] at hcv
      have HD : Hid (t = Lib.decDigits n.toNat) := hdig
      clear hdig hkt htl e
      go_wp2
      go_ret
      exact ⟨ret_str HD.out, hb⟩
    · have hst := digs_step m hm0
      have hk : 1 ≤ k := by omega
      have hk2 : k ≤ 24 := by omega
      have hmp : 0 < (m : Int) := by omega
      obtain ⟨v0, hc0⟩ := hT.1 (k - 1) (by omega)
      have hf0 := hT.2.1 (k - 1)
      have HD : Hid (digs (m / 10) ++ (UInt8.ofNat (48 + m % 10) :: t) = Lib.decDigits n.toNat) := by
        show _ = _
        rw [← hdig, hst]; simp
      have hT2 := hT.put hk (UInt8.ofNat (48 + m % 10))
      have eb : ((UInt8.ofNat (48 + m % 10)).toNat : Int) = 48 + (m : Int) % 10 := by
        have : 48 + m % 10 < 256 := by omega
        simp [UInt8.toNat_ofNat, Nat.mod_eq_of_lt this]
      rw [eb] at hT2
      have HT2 : Hid (Tail w.heap.size (k - 1) (UInt8.ofNat (48 + m % 10) :: t) (wr.setCell ⟨w.heap.size, k - 1, none⟩ (.int .u8 (48 + (m : Int) % 10)))) := hT2
      clear hdig hst hlen hkt eb hT2
      go_wp2
      go_roundw
      case rel => exact ⟨m / 10, k - 1, _, by omega, by go_num, by go_num, HD.out, HT2.out, hb.setCell (Nat.le_refl _) _, by simpa using hsz⟩
      case measure => simp [intOf]; omega

set_option maxHeartbeats 400000 in
theorem dec_neg (N : Nat) (w : World) (h0 : 0 < N) (h1 : (N : Int) ≤ 9223372036854775808) :
    Calls Ybad.prog 7 #[.int .i64 (-(N : Int))] w fun e w' => e = .returned (.string ⟨(45 :: Lib.decDigits N).toArray⟩) ∧ Below w.heap.size w w' := by
  have hn : -(N : Int) < 0 := by omega
  have hz : ((N : Int) == 0) = false := by simp; omega
  have hwr : IntKind.u64.wrap (-IntKind.u64.wrap (-(N : Int))) = (N : Int) := by rw [IntKind.wrap_u64, IntKind.wrap_u64]; omega
  go_enter Ybad.func7, Ybad.ntmps7
  go_wp2
  clear hwr
  go_loopw [4, 6] (fun u i wr => ∃ (m k : Nat) (t : List UInt8), (m : Int) ≤ 9223372036854775808 ∧ u = .int .u64 m ∧ i = .int .i64 k ∧ digs m ++ t = Lib.decDigits N ∧ Tail w.heap.size k t wr ∧ Below w.heap.size w wr ∧ w.heap.size < wr.heap.size)
    (fun u _ _ => (intOf u).toNat)
  case atStart =>
    refine ⟨N, 24, [], by omega, rfl, rfl, ?_, Tail.fresh w _ _ rfl, (Below.refl _ _).alloc (Nat.le_refl _) _, by simp⟩
    unfold digs
    rw [if_neg (by omega)]
    simp
  case round =>
    obtain ⟨m, k, t, hm, rfl, rfl, hdig, hT, hb, hsz⟩ := hrel
    have hlen : (digs m).length + t.length ≤ 20 := by
      rw [← List.length_append, hdig, Lib.decDigits_length]
      exact nDigits_le _ (by omega)
    have hkt : k + t.length = 24 := hT.2.2.1
    by_cases hm0 : m = 0
    · subst hm0
      have e : digs 0 ++ t = t := rfl
      rw [e] at hdig
      have htl : 1 ≤ t.length := by rw [hdig, Lib.decDigits_length]; exact Lib.nDigits_pos _
      have hk : 1 ≤ k := by omega
      have hk2 : k ≤ 24 := by omega
      obtain ⟨v0, hc0⟩ := hT.1 (k - 1) (by omega)
      have hf0 := hT.2.1 (k - 1)
      have hT2 := hT.put hk 45
      have eb : ((45 : UInt8).toNat : Int) = 45 := rfl
      rw [eb] at hT2
      have hsl := run_tail w.heap.size (k - 1) (by omega)
      have hcv := run_convert_bytes_back (P := Ybad.prog) (wr.setCell ⟨w.heap.size, k - 1, none⟩ (.int .u8 45)) 26 9 5 ⟨w.heap.size, k - 1, none⟩ (24 - (k - 1)) (45 :: t) Ybad.underlying26 Ybad.underlying5 Ybad.underlying9 (fun j hj => by rw [add_off]; exact hT2.2.2.2 j hj)
      rw [show (45 :: t).length = 24 - (k - 1) by simp; omega] at hcv
      have HD : Hid (45 :: t = 45 :: Lib.decDigits N) := congrArg (45 :: ·) hdig
      rw [show ((k - 1 : Nat) : Int) = (k : Int) - 1 by omega] at hsl
      clear hdig hkt htl e hT2 eb
      go_wp2
      go_ret
      exact ⟨ret_str HD.out, hb.setCell (Nat.le_refl _) _⟩
    · have hst := digs_step m hm0
      have hk : 1 ≤ k := by omega
      have hk2 : k ≤ 24 := by omega
      have hmp : 0 < (m : Int) := by omega
      obtain ⟨v0, hc0⟩ := hT.1 (k - 1) (by omega)
      have hf0 := hT.2.1 (k - 1)
      have HD : Hid (digs (m / 10) ++ (UInt8.ofNat (48 + m % 10) :: t) = Lib.decDigits N) := by
        show _ = _
        rw [← hdig, hst]; simp
      have hT2 := hT.put hk (UInt8.ofNat (48 + m % 10))
      have eb : ((UInt8.ofNat (48 + m % 10)).toNat : Int) = 48 + (m : Int) % 10 := by
        have : 48 + m % 10 < 256 := by omega
        simp [UInt8.toNat_ofNat, Nat.mod_eq_of_lt this]
      rw [eb] at hT2
      have HT2 : Hid (Tail w.heap.size (k - 1) (UInt8.ofNat (48 + m % 10) :: t) (wr.setCell ⟨w.heap.size, k - 1, none⟩ (.int .u8 (48 + (m : Int) % 10)))) := hT2
      clear hdig hst hlen hkt eb hT2
      go_wp2
      go_roundw
      case rel => exact ⟨m / 10, k - 1, _, by omega, by go_num, by go_num, HD.out, HT2.out, hb.setCell (Nat.le_refl _) _, by simpa using hsz⟩
      case measure => simp [intOf]; omega

/-- zzs4462bdec: for every int64 other than 0 the bytes of Lib.itoa. -/
theorem dec_any (n : Int) (w : World) (hn : n ≠ 0) (h0 : -9223372036854775808 ≤ n) (h1 : n ≤ 9223372036854775807) :
    Calls Ybad.prog 7 #[.int .i64 n] w fun e w' => e = .returned (.string ⟨(Lib.itoa n).toArray⟩) ∧ Below w.heap.size w w' := by
  by_cases h : n < 0
  · obtain ⟨N, rfl⟩ : ∃ N : Nat, n = -(N : Int) := ⟨n.natAbs, by omega⟩
    have e : Lib.itoa (-(N : Int)) = 45 :: Lib.decDigits N := by
      unfold Lib.itoa
      rw [if_pos h]
      simp
    rw [e]
    exact dec_neg N w (by omega) (by omega)
  · have e : Lib.itoa n = Lib.decDigits n.toNat := by
      unfold Lib.itoa
      rw [if_neg h]
    rw [e]
    exact dec_pos n w (by omega) h1
end Go.Proofs.YbulkcnjqDoor
