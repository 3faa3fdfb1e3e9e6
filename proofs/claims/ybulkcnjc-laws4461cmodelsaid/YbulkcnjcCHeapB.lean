/-
  container/heap over indexHeap: up, Pop, Push.
-/
import Derived.Test.YbulkcnjcCHeap
namespace Go.Proofs.Ybulkcnjc
open Go.RowKit Go.Deep Hp
set_option linter.unusedVariables false
attribute [local go_sem ↓] Go.wp_at_zero Go.wp_at_succ

theorem swp_comm (F : Nat → Nat) (i j : Nat) : swp F i j = swp F j i := by
  funext k
  unfold swp
  by_cases e1 : k = i <;> by_cases e2 : k = j <;> simp_all

def URes (hb base n : Nat) (F : Nat → Nat) (hv : Value) (w : World) (e : Ending) (w' : World) : Prop := e = .returned (.tuple #[]) ∧ HRes hb base n n F hv w w'

set_option maxRecDepth 100000 in
set_option maxHeartbeats 6400000 in
theorem up_any (hb base n g cap j0 : Nat) (F : Nat → Nat) (w : World) (h : HM hb base F n (.slice (some ⟨g, 0, none⟩) n cap) w) (hn : n ≤ 100000) (hj0 : j0 < n) (hu : Up F n j0) :
    Calls Yba.prog 31 #[.iface 58 (.pointer (some ⟨hb, 0, none⟩)), .int .i64 (j0 : Int)] w fun e w' => URes hb base n F (.slice (some ⟨g, 0, none⟩) n cap) w e w' := by
  have H0 : Hid (HM hb base F n (.slice (some ⟨g, 0, none⟩) n cap) w) := h
  have HU0 : Hid (Up F n j0) := hu
  clear h hu
  go_enter Yba.func31, Yba.ntmps31
  go_wp2
  go_loopg [1] j0 (fun gk x wr => ∃ (F' : Nat → Nat), gk < n ∧ x = .int .i64 (gk : Int) ∧ HM hb base F' n (.slice (some ⟨g, 0, none⟩) n cap) wr ∧ Up F' n gk ∧ (∀ S, Of F n S → Of F' n S) ∧ (∀ k, n ≤ k → F' k = F k) ∧ HFr hb (.slice (some ⟨g, 0, none⟩) n cap) w wr)
  case atStart => exact ⟨F, hj0, rfl, H0.out, HU0.out, fun S h => h, fun _ _ => rfl, HFr.refl _ _ _⟩
  case round =>
    clear H0 HU0
    obtain ⟨F', hj, rfl, hM, hU, hS, hK, hF⟩ := hrel
    obtain ⟨j, rfl⟩ : ∃ z, z = gk := ⟨gk, rfl⟩
    have HM' : Hid (HM hb base F' n (.slice (some ⟨g, 0, none⟩) n cap) wr) := hM
    have HU : Hid (Up F' n j) := hU
    have HS : Hid (∀ S, Of F n S → Of F' n S) := hS
    have HK : Hid (∀ k, n ≤ k → F' k = F k) := hK
    have HF : Hid (HFr hb (.slice (some ⟨g, 0, none⟩) n cap) w wr) := hF
    have cb : wr.cell? ⟨hb, 0, none⟩ = some (.slice (some ⟨g, 0, none⟩) n cap) := hM.box.one
    have hml := fun W => m_less hb (some ⟨g, 0, none⟩) n cap W
    have hms := fun W => m_swap hb (some ⟨g, 0, none⟩) n cap W
    clear hM hU hS hK hF
    by_cases h0 : 0 < j
    · have h0i : (0 : Int) ≤ (j : Int) - 1 := by omega
      have hp : par j < j := by unfold par; omega
      have hpi : ((j : Int) - 1) / 2 = (par j : Int) := by unfold par; omega
      have hne : ((par j : Int) == (j : Int)) = false := by
        have : (par j : Int) ≠ (j : Int) := by omega
        simpa using this
      by_cases h3 : F' j < F' (par j)
      · go_wp2_with (first
          | (go_at_call 86; refine (less_at HM'.out j (par j) _ _ (by omega) (by omega) (by omega) (by omega) true (by rw [decide_eq_true]; omega)).mono ?_; rintro e w3 ⟨rfl, rfl⟩)
          | (go_at_call 87; refine (swap_at HM'.out.drew (par j) j _ _ (by omega) (by omega) (by omega) (by omega)).mono ?_; rintro e w5 ⟨rfl, hM5, hF5⟩))
        have hF6 : HFr hb (.slice (some ⟨g, 0, none⟩) n cap) w w5 := (HF.out.drew).trans hF5
        have HM5 : Hid _ := hM5
        have HF6 : Hid _ := hF6
        clear hM5 hF5 hF6
        go_roundg (par j)
        case measure => omega
        case rel => exact ⟨swp F' (par j) j, by omega, by go_num, HM5.out, HU.out.step h0 hj h3, fun S h => (HS.out S h).swap (by omega) (by omega), fun k hk => by
          rw [← HK.out k hk]; simp [swp, show k ≠ par j by omega, show k ≠ j by omega], HF6.out⟩
      · go_wp2_with (first
          | (go_at_call 86; refine (less_at HM'.out j (par j) _ _ (by omega) (by omega) (by omega) (by omega) false (by rw [decide_eq_false]; omega)).mono ?_; rintro e w3 ⟨rfl, rfl⟩))
        go_end0
        exact ⟨rfl, F', HM'.out.drew, HU.out.stop (fun _ => by omega), HS.out, HK.out, HF.out.drew⟩
    · obtain rfl : j = 0 := by omega
      go_wp2
      go_end0
      exact ⟨rfl, F', HM'.out, HU.out.stop (fun h => absurd h (Nat.lt_irrefl _)), HS.out, HK.out, HF.out⟩

end Go.Proofs.Ybulkcnjc
