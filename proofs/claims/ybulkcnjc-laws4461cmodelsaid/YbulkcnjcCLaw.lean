/-
  LawS4461CModel: the walk.
-/
import Derived.Test.YbulkcnjcCBuild
namespace Go.Proofs.Ybulkcnjc
open Go.RowKit Go.Deep
set_option linter.unusedVariables false
attribute [local go_sem ↓] Go.wp_at_zero Go.wp_at_succ

theorem uOk_of (zs : List Int) (hwf : ∀ z ∈ zs, (Lit.int .i64 z).wf = true) : UOk (uN zs) (uList zs).length :=
  ⟨fun i hi => hwf _ (uList_mem zs (by unfold uN; rw [List.getD, List.getElem?_eq_getElem hi]; exact List.getElem_mem hi)), fun i j hij hj => uList_inc zs i j hij hj⟩

theorem cell_size {w : World} {b j : Nat} {v : Value} (h : w.cell? ⟨b, j, none⟩ = some v) : b < w.heap.size := by
  simp only [World.cell?] at h
  split at h
  · rename_i hb; exact lt_of_block hb
  · cases h

def ordI (A : Nat → Nat → Bool) (m : Nat) (U : Nat → Int) : List Int := (List.range m).map fun j => U ((Kh.ord A m).getD j 0)
theorem ordI_length (A : Nat → Nat → Bool) (m : Nat) (U : Nat → Int) : (ordI A m U).length = m := by simp [ordI]
theorem ordI_at (A : Nat → Nat → Bool) (m : Nat) (U : Nat → Int) (j : Nat) (h : j < m) : (ordI A m U).getD j 0 = U ((Kh.ord A m).getD j 0) := by simp [ordI, List.getD, h]

theorem equal_any (g1 c1 g2 c2 m : Nat) (A : Nat → Nat → Bool) (U : Nat → Int) (w : World) (hm : m ≤ 512) (h1 : ∀ j, j < m → w.cell? ⟨g1, j, none⟩ = some (.int .i64 (U ((Kh.ord A m).getD j 0)))) (h2 : ∀ j, j < m → w.cell? ⟨g2, j, none⟩ = some (.int .i64 (U ((Kh.ord A m).getD j 0)))) :
    Calls Yba.prog 9 #[.slice (some ⟨g1, 0, none⟩) m c1, .slice (some ⟨g2, 0, none⟩) m c2] w fun e w' => e = .returned (.bool true) ∧ Below w.heap.size w w' := by
  refine (Yba.slices_Equal_int g1 0 m c1 g2 0 m c2 (ordI A m U) (ordI A m U) w (by rw [ordI_length]; exact Nat.le_refl _) (by rw [ordI_length]; exact Nat.le_refl _) (by omega) (by omega) (fun j hj => ?_) (fun j hj => ?_)).mono ?_
  · rw [ordI_length] at hj
    rw [Nat.zero_add, h1 j hj, ordI_at _ _ _ _ hj]
  · rw [ordI_length] at hj
    rw [Nat.zero_add, h2 j hj, ordI_at _ _ _ _ hj]
  · rintro e w' ⟨rfl, q, rfl⟩
    exact ⟨by simp, below_q (Below.refl _ _) q⟩

theorem nil_eql (W : World) : Sem.run Yba.prog (binOp BinOp.eql 26 (.slice none 0 0) (.slice none 0 0)) W = .ok (.bool true) W := by kernel_rfl

set_option maxRecDepth 100000 in
set_option maxHeartbeats 6400000 in
theorem modelLaw_walk (zs : List Int) (pn ea : Option Addr) (cn len cap eb eo : Nat) (x y : Nat → Nat) (w : World) (hwf : ∀ z ∈ zs, (Lit.int .i64 z).wf = true)
    (hI : NodIn w.heap.size w pn zs) (hx : ∀ i, i < len → x i < 65536) (hy : ∀ i, i < len → y i < 65536)
    (hcell : ∀ i, i < len → ea = some ⟨eb, eo, none⟩ ∧ w.cell? ⟨eb, eo + i * 2, none⟩ = some (.int .u16 (x i : Int)) ∧ w.cell? ⟨eb, eo + i * 2 + 1, none⟩ = some (.int .u16 (y i : Int))) (heb : 0 < len → eb < w.heap.size) :
    Calls Yba.prog 4 #[.slice pn zs.length cn, .slice ea len cap] w fun e w' => e = .returned (.bool true) ∧ Below w.heap.size w w' := by
  have HI : Hid (NodIn w.heap.size w pn zs) := hI
  have HCell : Hid (∀ i, i < len → ea = some ⟨eb, eo, none⟩ ∧ w.cell? ⟨eb, eo + i * 2, none⟩ = some (.int .u16 (x i : Int)) ∧ w.cell? ⟨eb, eo + i * 2 + 1, none⟩ = some (.int .u16 (y i : Int))) := hcell
  have HX : Hid (∀ i, i < len → x i < 65536) := hx
  have HY : Hid (∀ i, i < len → y i < 65536) := hy
  have HEB : Hid (0 < len → eb < w.heap.size) := heb
  have HU : Hid (UOk (uN zs) (uList zs).length) := uOk_of zs hwf
  clear hI hcell hx hy heb hwf
  go_enter Yba.func4, Yba.ntmps4
  by_cases hn : (zs.length : Int) > 512
  · go_wp2
    go_ret
    exact ⟨rfl, Below.refl _ _⟩
  by_cases hl : (len : Int) > 1024
  · go_wp2
    go_ret
    exact ⟨rfl, Below.refl _ _⟩
  have hzl : zs.length ≤ 512 := by omega
  have hll : len ≤ 1024 := by omega
  have hm5 : (uList zs).length ≤ 512 := by have := uList_len zs; omega
  obtain ⟨m, hm⟩ : ∃ m, m = (uList zs).length := ⟨_, rfl⟩
  rw [← hm] at HU hm5
  have HMd : Hid (m = (uList zs).length) := hm
  clear hm
  go_upto_region 4 with (first
    | (go_at_call 6; refine (build_any zs pn ea cn len cap eb eo m x y _ hzl HMd.out HU.out HI.out hll HX.out HY.out HCell.out HEB.out).mono ?_; rintro e w1 ⟨A, pU, cU, bU, bA, bg, K, ST, FB, bS, bX, bN, pN, cN, ev, rfl, hA1, hU1, hbU1, hK1, hG1, hGr1, hb1⟩
       have HA1 : Hid _ := hA1
       have HU1 : Hid _ := hU1
       have HBU1 : Hid _ := hbU1
       have HG1 : Hid _ := hG1
       have HGr1 : Hid _ := hGr1
       have HB1 : Hid _ := hb1
       clear hA1 hU1 hbU1 hG1 hGr1 hb1))
  by_cases hfull : (Kh.ord A m).length = m
  · have HFull : Hid ((Kh.ord A m).length = m) := hfull
    clear hfull
    go_wp2_with (first
      | (go_at_call 7; refine (model_any A m (uN zs) bU bA pU cU (m * m) _ hm5 rfl HA1.out HU1.out HBU1.out).mono ?_; rintro e w2 ⟨hb2, hy2, hn2⟩; obtain ⟨g2, c2, rfl, hg2⟩ := hy2 HFull.out
         have HB2 : Hid _ := hb2
         have HC2 : Hid _ := hg2
         clear hb2 hy2 hn2 hg2)
      | (go_at_call 8; refine (serial_any A m K ST FB HGr1.out (uN zs) bg bS bX bN pN cN ev _ hm5 hK1 (HG1.out.below rfl HB2.out)).mono ?_; rintro e w3 ⟨hb3, hy3, hn3⟩; obtain ⟨g3, c3, rfl, hg3⟩ := hy3 HFull.out
         have HB3 : Hid _ := hb3
         have HC3 : Hid _ := hg3
         have HC23 : Hid (∀ j, j < m → w3.cell? ⟨g2, j, none⟩ = some (.int .i64 (uN zs ((Kh.ord A m).getD j 0)))) := (fun j hj => (hb3.cell (cell_size (HC2.out j hj))).trans (HC2.out j hj))
         clear hb3 hy3 hn3 hg3)
      | (go_at_call 9; refine (equal_any g3 c3 g2 c2 m A (uN zs) _ hm5 HC3.out HC23.out).mono ?_; rintro e w4 ⟨rfl, hb4⟩
         have HB4 : Hid _ := hb4
         clear hb4))
    go_ret
    exact ⟨rfl, ((HB1.out.trans (HB2.out.mono HB1.out.size)).trans (HB3.out.mono (Nat.le_trans HB1.out.size HB2.out.size))).trans (HB4.out.mono (Nat.le_trans (Nat.le_trans HB1.out.size HB2.out.size) HB3.out.size))⟩
  · have HFull : Hid ((Kh.ord A m).length ≠ m) := hfull
    clear hfull
    have hne := nil_eql
    go_wp2_with (first
      | (go_at_call 7; refine (model_any A m (uN zs) bU bA pU cU (m * m) _ hm5 rfl HA1.out HU1.out HBU1.out).mono ?_; rintro e w2 ⟨hb2, hy2, hn2⟩; obtain rfl := hn2 HFull.out
         have HB2 : Hid _ := hb2
         clear hb2 hy2 hn2)
      | (go_at_call 8; refine (serial_any A m K ST FB HGr1.out (uN zs) bg bS bX bN pN cN ev _ hm5 hK1 (HG1.out.below rfl HB2.out)).mono ?_; rintro e w3 ⟨hb3, hy3, hn3⟩; obtain rfl := hn3 HFull.out
         have HB3 : Hid _ := hb3
         clear hb3 hy3 hn3))
    go_ret
    exact ⟨rfl, (HB1.out.trans (HB2.out.mono HB1.out.size)).trans (HB3.out.mono (Nat.le_trans HB1.out.size HB2.out.size))⟩

end Go.Proofs.Ybulkcnjc
