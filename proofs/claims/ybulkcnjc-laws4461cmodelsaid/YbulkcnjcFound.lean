/-
  smallestOnCycle's closure, by its contract.
-/
import Derived.Test.YbulkcnjcGraphWalks
import Derived.Deep.QuietTactic
import Derived.BigQuiet
namespace Go.Proofs.Ybulkcnjc
open Go.RowKit

theorem leastOf_ge (t : Int) (C : List Nat) (k : Nat) (hk : k ≤ C.length) (hC : ∀ v ∈ C, v < 48) : -1 ≤ Tj.leastOf t (C.take k) ∧ Tj.leastOf t (C.take k) ≤ 48 := by
  rcases Tj.leastOf_spec t C k hk with ⟨h, _⟩ | ⟨v, hv, h, _⟩
  · omega
  · have := hC v (List.mem_of_mem_take hv)
    omega

set_option maxHeartbeats 1600000 in
theorem found_any (t sm : Int) (C : List Nat) (gb off cap bt bs : Nat) (w : World) (hC : ∀ v ∈ C, v < 48) (hlen : C.length ≤ 48)
    (hcell : ∀ i, (hi : i < C.length) → w.cell? ⟨gb, off + i, none⟩ = some (.int .i32 (C[i] : Int)))
    (ht : w.cell? ⟨bt, 0, none⟩ = some (.int .i32 t)) (hs : w.heap[bs]? = some (.cells #[.int .i32 sm] 21 (0, 0))) :
    Calls Yba.prog 11 #[.slice (some ⟨gb, off, none⟩) C.length cap, .pointer (some ⟨bt, 0, none⟩), .pointer (some ⟨bs, 0, none⟩)] w fun e w' =>
      e = .returned (.tuple #[]) ∧ w'.heap[bs]? = some (.cells #[.int .i32 (Tj.upSm t sm C)] 21 (0, 0)) ∧ w.grownBy w' (some bs) := by
  go_enter Yba.func11, Yba.ntmps11
  go_wp2
  go_loop [4, 5, 10] (fun l b i => ∃ k : Nat, k ≤ C.length ∧ i = .int .i64 (k : Int) ∧ l = .int .i32 (Tj.leastOf t (C.take k)) ∧ b = .int .i64 (Tj.belowOf t (C.take k) : Int)) (fun _ _ i => C.length - (intOf i).toNat)
  case atStart => exact ⟨0, Nat.zero_le _, rfl, by simp [Tj.leastOf], by simp [Tj.belowOf]⟩
  case round =>
    obtain ⟨k, hk, rfl, rfl, rfl⟩ := hrel
    by_cases hlt : k < C.length
    · have hc := hcell k hlt
      have hl := Tj.leastOf_snoc t (C.take k) C[k]
      have hb := Tj.belowOf_snoc t (C.take k) C[k]
      rw [← List.take_succ_eq_append_getElem hlt] at hl hb
      have hlb := leastOf_ge t C k hk hC
      have hbb := Tj.belowOf_le t (C.take k)
      have hbk : (C.take k).length ≤ k := List.length_take_le _ _
      have HL : Hid _ := hl
      have HB : Hid _ := hb
      clear hl hb hcell hs
      generalize C[k] = x at *
      generalize Tj.leastOf t (C.take k) = l at *
      generalize Tj.belowOf t (C.take k) = b at *
      by_cases h1 : (x : Int) < t
      · by_cases h2 : l < 0
        · go_wp2
          go_round
          case rel => exact ⟨k + 1, by omega, by go_num, by rw [HL.out, if_pos ⟨h1, Or.inl h2⟩], by rw [HB.out, if_pos h1]; go_num⟩
          case measure => simp [intOf]; omega
        · have h2d : decide (l < 0) = false := by simp; omega
          by_cases h3 : (x : Int) < l
          · go_wp2
            go_round
            case rel => exact ⟨k + 1, by omega, by go_num, by rw [HL.out, if_pos ⟨h1, Or.inr h3⟩], by rw [HB.out, if_pos h1]; go_num⟩
            case measure => simp [intOf]; omega
          · go_wp2
            go_round
            case rel => exact ⟨k + 1, by omega, by go_num, by rw [HL.out, if_neg (fun hh => hh.2.elim h2 h3)], by rw [HB.out, if_pos h1]; go_num⟩
            case measure => simp [intOf]; omega
      · go_wp2
        go_round
        case rel => exact ⟨k + 1, by omega, by go_num, by rw [HL.out, if_neg (fun hh => h1 hh.1)], by rw [HB.out, if_neg h1]; go_num⟩
        case measure => simp [intOf]; omega
    · have e1 : C.take k = C := List.take_of_length_le (by omega)
      rw [e1]
      have hsc := cell_of_one hs
      have hsf := free_of_one hs
      have HS : Hid _ := hs
      have HU : Hid (Tj.upSm t sm C = if 1 < Tj.belowOf t C ∧ (sm < 0 ∨ Tj.leastOf t C < sm) then Tj.leastOf t C else sm) := rfl
      clear hs hcell e1
      generalize Tj.leastOf t C = l at *
      generalize Tj.belowOf t C = b at *
      have hstay : ∀ u', u' = sm → w.heap[bs]? = some (.cells #[.int .i32 u'] 21 (0, 0)) ∧ w.grownBy w (some bs) := fun u' e => ⟨by rw [e]; exact HS.out, World.grownBy.refl _ _⟩
      have HST : Hid _ := hstay
      have hput : (w.setCell ⟨bs, 0, none⟩ (.int .i32 l)).heap[bs]? = some (.cells #[.int .i32 l] 21 (0, 0)) ∧ w.grownBy (w.setCell ⟨bs, 0, none⟩ (.int .i32 l)) (some bs) :=
        ⟨one_setCell HS.out, ⟨rfl, rfl, rfl, by simp, fun j _ hne => Below.heap_setCell w _ _ j (fun e => hne (by rw [e]))⟩⟩
      have HP : Hid _ := hput
      clear hstay hput
      by_cases h1 : 1 < b
      · have h1i : (1 : Int) < (b : Int) := by omega
        by_cases h2 : sm < 0
        · go_wp2
          go_end0
          exact ⟨rfl, by rw [HU.out, if_pos ⟨h1, Or.inl h2⟩]; exact HP.out.1, HP.out.2⟩
        · have h2d : decide (sm < 0) = false := by simp; omega
          by_cases h3 : l < sm
          · go_wp2
            go_end0
            exact ⟨rfl, by rw [HU.out, if_pos ⟨h1, Or.inr h3⟩]; exact HP.out.1, HP.out.2⟩
          · have h3d : decide (l < sm) = false := by simp; omega
            go_wp2
            go_end0
            exact ⟨rfl, HST.out _ (by rw [HU.out, if_neg (by omega)])⟩
      · have h1i : ¬ (1 : Int) < (b : Int) := by omega
        have h1d : decide ((1 : Int) < (b : Int)) = false := by simp; omega
        go_wp2
        go_end0
        exact ⟨rfl, HST.out _ (by rw [HU.out, if_neg (fun hh => h1 hh.1)])⟩
end Go.Proofs.Ybulkcnjc
