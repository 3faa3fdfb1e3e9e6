/-
  container/heap over indexHeap: Pop, Push.
-/
import Derived.Test.YbulkcnjcCHeapB
namespace Go.Proofs.Ybulkcnjc
open Go.RowKit Go.Deep Hp
set_option linter.unusedVariables false
attribute [local go_sem ↓] Go.wp_at_zero Go.wp_at_succ

set_option maxRecDepth 100000 in
theorem len_any (x : Option Addr) (n cap : Nat) (w : World) : Calls Yba.prog 85 #[.slice x n cap] w fun e w' => e = .returned (.int .i64 (n : Int)) ∧ w' = w := by
  go_enter Yba.func85, Yba.ntmps85
  go_wp2
  go_ret
  exact ⟨rfl, rfl⟩

theorem row_take (F : Nat → Nat) (n : Nat) : (row F (n + 1)).take (n * 1) = row F n := by
  apply List.ext_getElem?
  intro k
  rw [List.getElem?_take, Nat.mul_one]
  by_cases hk : k < n
  · rw [if_pos hk, row_at F n k hk, row_at F (n + 1) k (by omega)]
  · rw [if_neg hk]
    exact (List.getElem?_eq_none (by simp [row, nodes]; omega)).symm

theorem row_push (F : Nat → Nat) (n x : Nat) : row F n ++ [.int .i32 (x : Int)] = row (fun k => if k = n then x else F k) (n + 1) := by
  apply List.ext_getElem?
  intro k
  have hs : (row F n).length = n := by simp [row, nodes]
  by_cases hk : k < n
  · rw [List.getElem?_append_left (by omega), row_at F n k hk, row_at _ (n + 1) k (by omega)]
    simp [show k ≠ n by omega]
  · rw [List.getElem?_append_right (by omega), hs]
    by_cases e : k = n
    · subst e
      rw [row_at _ (k + 1) k (by omega)]
      simp
    · have h1 : (row (fun k => if k = n then x else F k) (n + 1))[k]? = none := List.getElem?_eq_none (by simp [row, nodes]; omega)
      rw [h1]
      exact List.getElem?_eq_none (by simp; omega)

def PopRes (hb base n g cap : Nat) (F : Nat → Nat) (w : World) (e : Ending) (w' : World) : Prop :=
  e = .returned (.iface 21 (.int .i32 (F n : Int))) ∧ HM hb base F n (.slice (some ⟨g, 0, none⟩) n cap) w' ∧ HFr hb (.slice (some ⟨g, 0, none⟩) (n + 1) cap) w w'

set_option maxRecDepth 100000 in
set_option maxHeartbeats 1600000 in
theorem popm_any (hb base n g cap : Nat) (F : Nat → Nat) (w : World) (h : HM hb base F (n + 1) (.slice (some ⟨g, 0, none⟩) (n + 1) cap) w) (hn : n ≤ 100000) :
    Calls Yba.prog 88 #[.pointer (some ⟨hb, 0, none⟩)] w fun e w' => PopRes hb base n g cap F w e w' := by
  have cb := h.box.one
  have fb := h.box.free 0
  have cn := h.cell n (by omega)
  have H0 : Hid _ := h
  have hcap : n ≤ cap := by
    rcases h.row.2 with ⟨h1, _⟩ | ⟨g', cap', cur, h1, h2, h3, h4, h5, h6, h7⟩
    · cases h1
    · simp only [Value.slice.injEq, Option.some.injEq, Addr.mk.injEq, and_true, true_and] at h1
      omega
  have hci : (n : Int) ≤ (cap : Int) := by omega
  have hni : (n : Int) < ((n + 1 : Nat) : Int) := by omega
  have hsub : ((n + 1 : Nat) : Int) - 1 = (n : Int) := by omega
  clear h
  go_enter Yba.func88, Yba.ntmps88
  go_wp2
  go_ret
  refine ⟨rfl, ⟨H0.out.box.set 0 _, ?_, H0.out.lb, by simpa using H0.out.sz⟩, ?_⟩
  · have h2 := ownsRow_shorter H0.out.row (k := n) (by omega)
    rw [row_take] at h2
    exact ownsRow_setCell_below h2 (by exact H0.out.lb) _
  · exact ⟨rfl, rfl, rfl, by rw [World.size_setCell]; exact Nat.le_refl _, fun b hb h1 h2 => Below.heap_setCell _ _ _ _ h1⟩

theorem t_assert (v : Value) (w : World) : (Instr.typeAssert (.iface 21 v) 20 21 false).run Yba.prog w = .ok v w := by kernel_rfl

def PushRes (hb base n x : Nat) (F : Nat → Nat) (hv : Value) (w : World) (e : Ending) (w' : World) : Prop :=
  e = .returned (.tuple #[]) ∧ ∃ g cap, HM hb base (fun k => if k = n then x else F k) (n + 1) (.slice (some ⟨g, 0, none⟩) (n + 1) cap) w' ∧ HFr hb hv w w' ∧ (hv.ownBlock = some g ∨ w.heap.size ≤ g)

theorem push_res {hb base n x g cap : Nat} {F : Nat → Nat} {hv : Value} {w w4 : World} {o : Obj} (h : HM hb base F n hv w) (hg : (w.alloc o).grownBy w4 hv.ownBlock) (hown : w4.ownsRow base 21 1 (.slice (some ⟨g, 0, none⟩) (n + 1) cap) (n + 1) (row F n ++ [.int .i32 (x : Int)])) :
    HM hb base (fun k => if k = n then x else F k) (n + 1) (.slice (some ⟨g, 0, none⟩) (n + 1) cap) (w4.setCell ⟨hb, 0, none⟩ (.slice (some ⟨g, 0, none⟩) (n + 1) cap)) ∧ HFr hb hv w (w4.setCell ⟨hb, 0, none⟩ (.slice (some ⟨g, 0, none⟩) (n + 1) cap)) ∧ Blk w4 hb 56 #[hv] := by
  rw [row_push] at hown
  have hbx := (h.box.alloc o).grown hg (fun e => by have := (h.row.lt hb e.symm).1; have := h.lb; omega)
  have hlb := h.lb
  refine ⟨⟨hbx.set 0 _, ownsRow_setCell_below hown (by exact hlb) _, h.lb, ?_⟩, ⟨hg.os, hg.tape, hg.output, ?_, fun b hb h1 h2 => ?_⟩, hbx⟩
  · rw [World.size_setCell]
    have := hg.size
    have := h.sz
    simp at *
    omega
  · rw [World.size_setCell]
    have := hg.size
    simp at *
    omega
  · rw [Below.heap_setCell _ _ _ _ h1, hg.block b (by simp; omega) h2, Below.heap_alloc w o b hb]

set_option maxRecDepth 100000 in
set_option maxHeartbeats 1600000 in
theorem pushm_any (hb base n x : Nat) (F : Nat → Nat) (hv : Value) (w : World) (h : HM hb base F n hv w) (hn : n ≤ 100000) :
    Calls Yba.prog 89 #[.pointer (some ⟨hb, 0, none⟩), .iface 21 (.int .i32 (x : Int))] w fun e w' => PushRes hb base n x F hv w e w' := by
  have cb := h.box.one
  have fb := h.box.free 0
  have H0 : Hid (HM hb base F n hv w) := h
  have hsz := h.sz
  have hlt := h.box.lt
  clear h
  obtain ⟨i2, hi2, hz20, hz21, hz22⟩ := info_parts info21
  have hta := t_assert
  go_enter Yba.func89, Yba.ntmps89
  go_wp2
  go_region_law
    (refine step_append_lies _ (by rfl) _ _ 56 (by rfl) base 21 i2 (.int .i32 0) 1 4 Yba.underlying56 hi2 hz20 hz21 hz22 rfl (by decide) hv n (row F n) (by rfl) (H0.out.drew.row.alloc _) ⟨w.heap.size, 0, none⟩ 1 1 [.int .i32 (x : Int)] (by rfl) (by rfl) (World.news_of_block (heap_alloc_new w.drew _)) (by intro u hu; simp at hu; subst hu; rfl) (by decide) (by unfold maxLen; omega) (by omega) (by simp; omega) _ rfl ?_; intro ga cap w4 hown4 hgrow4 hat4 hlt4; have hA := push_res H0.out.drew hgrow4 hown4; have cb4 := hA.2.2.one; have fb4 := hA.2.2.free 0)
  all_goals
    go_end0
    exact ⟨rfl, _, _, hA.1, ⟨hA.2.1.os, hA.2.1.tape, hA.2.1.output, hA.2.1.size, hA.2.1.block⟩, by rcases hat4 with h | h; exact Or.inl h; right; simp at h; omega⟩

def HPopRes (hb base n : Nat) (F : Nat → Nat) (S : Nat → Bool) (hv : Value) (w : World) (e : Ending) (w' : World) : Prop :=
  e = .returned (.iface 21 (.int .i32 (F 0 : Int))) ∧ ∃ F' hv', HM hb base F' n hv' w' ∧ IsH F' n ∧ Of F' n (rem S (F 0)) ∧ hv'.ownBlock = hv.ownBlock ∧ HFr hb hv w w'

set_option maxRecDepth 100000 in
set_option maxHeartbeats 1600000 in
theorem hpop_any (hb base n g cap : Nat) (F : Nat → Nat) (S : Nat → Bool) (w : World) (h : HM hb base F (n + 1) (.slice (some ⟨g, 0, none⟩) (n + 1) cap) w) (hn : n + 1 ≤ 100000) (hh : IsH F (n + 1)) (ho : Of F (n + 1) S) :
    Calls Yba.prog 16 #[.iface 58 (.pointer (some ⟨hb, 0, none⟩))] w fun e w' => HPopRes hb base n F S (.slice (some ⟨g, 0, none⟩) (n + 1) cap) w e w' := by
  have cb := h.box.one
  have H0 : Hid _ := h
  have HH : Hid _ := hh
  have HO : Hid _ := ho
  have hml := fun W => m_len hb (some ⟨g, 0, none⟩) (n + 1) cap W
  have hms := fun W => m_swap hb (some ⟨g, 0, none⟩) (n + 1) cap W
  have hmp := m_pop
  clear h hh ho
  go_enter Yba.func16, Yba.ntmps16
  go_wp2_with (first
    | (go_at_call 85; refine (len_any _ _ _ _).mono ?_; rintro e w1 ⟨rfl, rfl⟩)
    | (go_at_call 87; refine (swap_at H0.out 0 n _ _ (by omega) (by omega) (by omega) (by omega)).mono ?_; rintro e w2 ⟨rfl, hM2, hF2⟩; have HM2 : Hid _ := hM2; have HF2 : Hid _ := hF2; clear hM2 hF2)
    | (go_at_call 30; refine (down_any hb base (n + 1) n g cap (swp F 0 n) _ HM2.out hn (by omega) (Dn.start HH.out)).mono ?_; rintro e w3 ⟨⟨b3, rfl⟩, F3, hM3, hI3, hS3, hK3, hF3⟩; have HM3 : Hid _ := hM3; have HF3 : Hid _ := hF3; have HI3 : Hid _ := hI3; have HS3 : Hid _ := hS3; have HK3 : Hid _ := hK3; clear hM3 hF3 hI3 hS3 hK3)
    | (go_at_call 88; refine (popm_any hb base n g cap F3 _ HM3.out (by omega)).mono ?_; rintro e w4 ⟨rfl, hM4, hF4⟩; have HM4 : Hid _ := hM4; have HF4 : Hid _ := hF4; clear hM4 hF4))
  go_ret
  have e0 : F3 n = F 0 := by
    rw [HK3.out n (Nat.le_refl _)]
    by_cases e : n = 0
    · subst e; simp [swp]
    · simp [swp, e]
  refine ⟨by rw [e0]; rfl, F3, _, HM4.out, HI3.out, ?_, rfl, (HF2.out.trans HF3.out).trans HF4.out⟩
  have h1 := (HO.out.swap (i := 0) (j := n) (by omega) (by omega)).pop
  have e1 : swp F 0 n n = F 0 := by rw [← HK3.out n (Nat.le_refl _), e0]
  rw [e1] at h1
  exact HS3.out _ h1

def HPushRes (hb base n x : Nat) (S : Nat → Bool) (hv : Value) (w : World) (e : Ending) (w' : World) : Prop :=
  e = .returned (.tuple #[]) ∧ ∃ F' hv', HM hb base F' (n + 1) hv' w' ∧ IsH F' (n + 1) ∧ Of F' (n + 1) (ins S x) ∧ (hv'.ownBlock = hv.ownBlock ∨ ∃ g, hv'.ownBlock = some g ∧ w.heap.size ≤ g) ∧ HFr hb hv w w'

set_option maxRecDepth 100000 in
set_option maxHeartbeats 1600000 in
theorem hpush_any (hb base n x : Nat) (F : Nat → Nat) (S : Nat → Bool) (hv : Value) (w : World) (h : HM hb base F n hv w) (hn : n + 1 ≤ 100000) (hh : IsH F n) (ho : Of F n S) (hx : S x = false) :
    Calls Yba.prog 18 #[.iface 58 (.pointer (some ⟨hb, 0, none⟩)), .iface 21 (.int .i32 (x : Int))] w fun e w' => HPushRes hb base n x S hv w e w' := by
  have H0 : Hid _ := h
  have HH : Hid _ := hh
  have HO : Hid _ := ho
  have hmp := m_push
  clear h hh ho
  go_enter Yba.func18, Yba.ntmps18
  go_wp2_with (first
    | (go_at_call 89; refine (pushm_any hb base n x F hv _ H0.out (by omega)).mono ?_; rintro e w1 ⟨rfl, g, cap, hM1, hF1, hg1⟩; have cb1 := hM1.box.one; have hml1 := m_len hb (some ⟨g, 0, none⟩) (n + 1) cap w1 cb1; have HM1 : Hid _ := hM1; have HF1 : Hid _ := hF1; have HG1 : Hid _ := hg1; clear hM1 hF1 hg1)
    | (go_at_call 85; refine (len_any _ _ _ _).mono ?_; rintro e w2 ⟨rfl, rfl⟩)
    | (go_at_call 31; refine (up_any hb base (n + 1) g cap n _ _ HM1.out hn (by omega) (Up.push HH.out x)).mono ?_; rintro e w3 ⟨rfl, F3, hM3, hI3, hS3, hK3, hF3⟩; have HM3 : Hid _ := hM3; have HF3 : Hid _ := hF3; have HI3 : Hid _ := hI3; have HS3 : Hid _ := hS3; clear hM3 hF3 hI3 hS3 hK3))
  go_end0
  have hf1 := HF1.out
  have hf3 := HF3.out
  refine ⟨rfl, F3, _, HM3.out, HI3.out, HS3.out _ (HO.out.push hx), ?_, ?_⟩
  · rcases HG1.out with h | h
    · exact Or.inl h.symm
    · exact Or.inr ⟨g, rfl, h⟩
  · refine ⟨hf3.os.trans hf1.os, hf3.tape.trans hf1.tape, hf3.output.trans hf1.output, Nat.le_trans hf1.size hf3.size, fun b hb h1 h2 => ?_⟩
    rw [hf3.block b (Nat.lt_of_lt_of_le hb hf1.size) h1 ?_]
    · exact hf1.block b hb h1 h2
    · intro e
      simp only [Value.ownBlock, Option.some.injEq] at e
      rcases HG1.out with h | h
      · rw [h, e] at h2; exact h2 rfl
      · omega

end Go.Proofs.Ybulkcnjc
