/-
  zzs4463bsame.
-/
import Derived.Test.YbulkcnkeBFoldM
namespace Go.Proofs.Ybulkcnke
open Go.RowKit Go.Maps
set_option linter.unusedVariables false

theorem countP_below (f : Nat → Bool) (n : Nat) (hf : ∀ c, f c = true → c < n) : ∀ k, n ≤ k → (List.range k).countP f = (List.range n).countP f
  | 0, h => by rw [show n = 0 by omega]
  | k + 1, h => by
    by_cases e : n = k + 1
    · rw [e]
    · rw [List.range_succ, List.countP_append, countP_below f n hf k (by omega)]
      have : f k = false := by
        cases h1 : f k
        · rfl
        · have := hf k h1; omega
      simp [this]

theorem cntF_dom {f : Nat → Option Value} {n : Nat} (hn : n ≤ 48) (h1 : ∀ j, j < n → (f j).isSome = true) (h2 : ∀ j, n ≤ j → f j = none) : cntF f = n := by
  unfold cntF
  rw [countP_below _ n (fun c hc => by
    rcases Nat.lt_or_ge c n with h | h
    · exact h
    · rw [h2 c h] at hc; cases hc) 48 hn]
  rw [List.countP_eq_length.2 (fun j hj => h1 j (List.mem_range.1 hj))]
  simp

theorem cntF_set {F : Nat → Bool} {n : Nat} (hn : n ≤ 48) (h : ∀ c, F c = true → c < n) : cntF (sF F) = (List.range n).countP F := by
  unfold cntF
  have : (fun i => (sF F i).isSome) = F := by funext c; exact sF_some F c
  rw [this, countP_below F n h 48 hn]

theorem countP_range_succ (f : Nat → Bool) (k : Nat) : (List.range (k + 1)).countP f = (List.range k).countP f + (if f k then 1 else 0) := by
  rw [List.range_succ, List.countP_append]
  simp [List.countP_cons]

theorem countP_range_le (f : Nat → Bool) (k : Nat) : (List.range k).countP f ≤ k := by
  have := List.countP_le_length (p := f) (l := List.range k)
  simpa using this

set_option maxRecDepth 100000 in
set_option maxHeartbeats 3200000 in
theorem same_any (p : Pr) (ok : p.Ok) (su : Nat → Nat → Bool) (hdom : ∀ i, i < p.n → ∀ c, su i c = true → c < p.n) (mr : Nat) (wa : Option Addr) (wcap : Nat) (w : World) (h : ComMap p su mr w)
    (hW : ∃ wb, ∀ i, i < p.n → wa = some ⟨wb, 0, none⟩ ∧ ∃ rb, w.cell? ⟨wb, i, none⟩ = some (.slice (some ⟨rb, 0, none⟩) p.n p.n) ∧ ∀ c, c < p.n → w.cell? ⟨rb, c, none⟩ = some (.bool (su i c))) :
    Calls Yba.prog 9 #[.map (some mr), .slice wa p.n wcap, .int .i64 (p.n : Int)] w fun e w' => e = .returned (.bool true) ∧ Below w.heap.size w w' := by
  obtain ⟨f, hf, hsome, hnone⟩ := h
  obtain ⟨wb, hW⟩ := hW
  have HF : Hid (MapIs w mr f) := hf
  have HS : Hid (∀ j, j < p.n → ∃ x, f j = some (.map (some x)) ∧ MapIs w x (sF (su j))) := hsome
  have HW : Hid (∀ i, i < p.n → wa = some ⟨wb, 0, none⟩ ∧ ∃ rb, w.cell? ⟨wb, i, none⟩ = some (.slice (some ⟨rb, 0, none⟩) p.n p.n) ∧ ∀ c, c < p.n → w.cell? ⟨rb, c, none⟩ = some (.bool (su i c))) := hW
  have HD : Hid (∀ i, i < p.n → ∀ c, su i c = true → c < p.n) := hdom
  have hn := ok.n
  have hcnt : cntF f = p.n := cntF_dom hn (fun j hj => by obtain ⟨x, hx, _⟩ := hsome j hj; rw [hx]; rfl) hnone
  clear hf hsome hnone hW hdom ok
  go_enter Yba.func9, Yba.ntmps9
  go_wp2_with (at_len; refine wpList_len_is _ rfl _ 40 rfl 61 Yba.underlying40 mr f rfl HF.out ?_; rw [hcnt])
  go_loopg [7] p.n (fun gk x wr => ∃ k : Nat, k ≤ p.n ∧ gk + k = p.n ∧ x = .int .i64 (k : Int) ∧ Below w.heap.size w wr)
  case atStart => exact ⟨0, Nat.zero_le _, rfl, rfl, Below.refl _ _⟩
  case round =>
    obtain ⟨k, hk, hgk, rfl, hB⟩ := hrel
    have HB : Hid (Below w.heap.size w wr) := hB
    have hszr := hB.size
    clear hB
    by_cases hkl : k < p.n
    · have hki : (k : Int) < (p.n : Int) := by omega
      obtain ⟨x, hx, hmx⟩ := HS.out k hkl
      have HX : Hid (f k = some (.map (some x))) := hx
      have HMX : Hid (MapIs w x (sF (su k))) := hmx
      obtain ⟨rfl, rb, d1, d2⟩ := HW.out k hkl
      have hwb : wb < w.heap.size := World.block_lt_of_cell? w ⟨wb, k, none⟩ d1
      have D2 : Hid (∀ c, c < p.n → w.cell? ⟨rb, c, none⟩ = some (.bool (su k c))) := d2
      clear hx hmx d2
      go_wp2_with (first
        | (go_at_call 15; refine (bid_any k (by omega) _).mono ?_; rintro e w2 ⟨rfl, hb2⟩
           have HB2 : Hid (Below w.heap.size w w2) := HB.out.trans (hb2.mono hszr)
           clear hb2)
        | (at_lookup; refine wpList_look_ok_at _ rfl _ _ 40 rfl 61 Yba.underlying40 (zero61 _) mr f rfl (HF.out.below HB2.out HF.out.lt) k (by omega) rfl (.map (some x)) (by rw [HX.out]; rfl) true (by rw [HX.out]; rfl) ?_))
      clear HB
      go_loopg [10, 11] p.n (fun gk cn x wr => ∃ c : Nat, c ≤ p.n ∧ gk + c = p.n ∧ x = .int .i64 (c : Int) ∧ cn = .int .i64 (((List.range c).countP (su k) : Nat) : Int) ∧ Below w.heap.size w wr)
      case atStart => exact ⟨0, Nat.zero_le _, rfl, rfl, rfl, HB2.out⟩
      case round =>
        obtain ⟨c, hc, hgc, rfl, rfl, hB⟩ := hrel
        have HB : Hid (Below w.heap.size w wr) := hB
        have hszc := hB.size
        clear hB HB2
        have hle := countP_range_le (su k) c
        by_cases hcl : c < p.n
        · have hci : (c : Int) < (p.n : Int) := by omega
          have hrb : rb < w.heap.size := World.block_lt_of_cell? w ⟨rb, c, none⟩ (D2.out c hcl)
          have e1 : wr.cell? ⟨wb, k, none⟩ = some (.slice (some ⟨rb, 0, none⟩) p.n p.n) := (HB.out.cell (p := ⟨wb, k, none⟩) hwb).trans d1
          have e2 : wr.cell? ⟨rb, c, none⟩ = some (.bool (su k c)) := (HB.out.cell (p := ⟨rb, c, none⟩) hrb).trans (D2.out c hcl)
          have hsucc := countP_range_succ (su k) c
          have HSc : Hid (_ = _) := hsucc
          clear hsucc
          generalize (List.range c).countP (su k) = z at hle HSc ⊢
          cases hs : su k c
          · rw [hs] at e2
            go_wp2
            go_roundg (gk - 1)
            case measure => omega
            case rel => exact ⟨c + 1, by omega, by omega, by go_num, by rw [HSc.out, hs]; rfl, HB.out⟩
          · rw [hs] at e2
            go_wp2_with (first
              | (go_at_call 15; refine (bid_any c (by omega) _).mono ?_; rintro e w3 ⟨rfl, hb3⟩
                 have HB3 : Hid (Below w.heap.size w w3) := HB.out.trans (hb3.mono hszc)
                 clear hb3)
              | (at_lookup; refine wpList_look_at _ rfl _ _ 61 rfl 4 Yba.underlying61 (zero4 _) x _ rfl (HMX.out.below HB3.out HMX.out.lt) c (by omega) rfl (.bool true) (by rw [sF_at, hs]) ?_))
            go_roundg (gk - 1)
            case measure => omega
            case rel => exact ⟨c + 1, by omega, by omega, by go_num, by rw [HSc.out, hs]; simp, HB3.out⟩
        · have hci : ¬ (c : Int) < (p.n : Int) := by omega
          obtain rfl : c = p.n := by omega
          have hq : cntF (sF (su k)) = (List.range p.n).countP (su k) := cntF_set hn (HD.out k hkl)
          generalize (List.range p.n).countP (su k) = z at hle hq ⊢
          go_wp2_with (at_len; refine wpList_len_is _ rfl _ 61 rfl 4 Yba.underlying61 x _ rfl (HMX.out.below HB.out HMX.out.lt) ?_; rw [hq])
          go_roundg (p.n - (k + 1))
          case measure => omega
          case rel => exact ⟨k + 1, by omega, by omega, by go_num, HB.out⟩
    · have hki : ¬ (k : Int) < (p.n : Int) := by omega
      go_wp2
      go_ret
      exact ⟨rfl, HB.out⟩

end Go.Proofs.Ybulkcnke
