/-
  allHold.
-/
import Derived.Test.YbulkcnkeBProc
namespace Go.Proofs.Ybulkcnke
open Go.RowKit Go.Maps
set_option linter.unusedVariables false

/-- the map that is a set -/
def sF (F : Nat → Bool) : Nat → Option Value := fun c => if F c then some (.bool true) else none

theorem sF_at (F : Nat → Bool) (c : Nat) : (sF F c).getD (.bool false) = .bool (F c) := by unfold sF; cases F c <;> rfl
theorem sF_some (F : Nat → Bool) (c : Nat) : (sF F c).isSome = F c := by unfold sF; cases F c <;> rfl

/-- len sets lie in a row -/
def Leads (la : Option Addr) (len : Nat) (F : Nat → Nat → Bool) (w : World) : Prop :=
  ∃ lb, ∀ j, j < len → la = some ⟨lb, 0, none⟩ ∧ ∃ m, w.cell? ⟨lb, j, none⟩ = some (.map (some m)) ∧ MapIs w m (sF (F j))

theorem range_all_succ (n : Nat) (f : Nat → Bool) : (List.range (n + 1)).all f = ((List.range n).all f && f n) := by
  rw [List.range_succ, List.all_append]; simp

set_option maxRecDepth 100000 in
set_option maxHeartbeats 1600000 in
theorem allHold_any (la : Option Addr) (len cap : Nat) (F : Nat → Nat → Bool) (c : Nat) (hc : c < 48) (hlen : len ≤ 1024) (w : World) (h : Leads la len F w) :
    Calls Yba.prog 19 #[.slice la len cap, .string (idB c)] w fun e w' => e = .returned (.bool ((List.range len).all (fun j => F j c))) ∧ w' = w := by
  obtain ⟨lb, h⟩ := h
  have HL : Hid (∀ j, j < len → la = some ⟨lb, 0, none⟩ ∧ ∃ m, w.cell? ⟨lb, j, none⟩ = some (.map (some m)) ∧ MapIs w m (sF (F j))) := h
  clear h
  go_enter Yba.func19, Yba.ntmps19
  go_wp2
  go_loopg [9] len (fun gk x wr => wr = w ∧ ∃ k : Nat, k ≤ len ∧ gk + k = len ∧ x = .int .i64 (k : Int) ∧ (List.range k).all (fun j => F j c) = true)
  case atStart => exact ⟨rfl, 0, Nat.zero_le _, rfl, rfl, rfl⟩
  case round =>
    obtain ⟨rfl, k, hk, hgk, rfl, hall⟩ := hrel
    have HA : Hid ((List.range k).all (fun j => F j c) = true) := hall
    clear hall
    by_cases hkl : k < len
    · have hki : (k : Int) < (len : Int) := by omega
      obtain ⟨rfl, m, d1, hm⟩ := HL.out k hkl
      have HM : Hid (MapIs wr m (sF (F k))) := hm
      clear hm
      cases hF : F k c
      · go_wp2_with (at_lookup; refine wpList_look_at _ rfl _ _ 61 rfl 4 Yba.underlying61 (zero4 _) m _ rfl HM.out c hc rfl (.bool false) (by rw [sF_at, hF]) ?_)
        go_ret
        refine ⟨?_, rfl⟩
        have : (List.range len).all (fun j => F j c) = false := by
          rw [List.all_eq_false]
          exact ⟨k, List.mem_range.2 hkl, by simp [hF]⟩
        rw [this]
        rfl
      · go_wp2_with (at_lookup; refine wpList_look_at _ rfl _ _ 61 rfl 4 Yba.underlying61 (zero4 _) m _ rfl HM.out c hc rfl (.bool true) (by rw [sF_at, hF]) ?_)
        go_roundg (gk - 1)
        case measure => omega
        case rel => exact ⟨rfl, k + 1, by omega, by omega, by go_num, by rw [range_all_succ, HA.out, hF]; rfl⟩
    · have hki : ¬ (k : Int) < (len : Int) := by omega
      obtain rfl : k = len := by omega
      go_wp2
      go_ret
      exact ⟨by rw [HA.out]; rfl, rfl⟩

end Go.Proofs.Ybulkcnke
