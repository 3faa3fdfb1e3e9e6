/-
  LawS4461ASmallest: the walk.
-/
import Derived.Test.YbulkcnjcLawMem
import Derived.Test.YbulkcnjcSmallest
namespace Go.Proofs.Ybulkcnjc
open Go.RowKit Go.Deep
set_option linter.unusedVariables false

set_option maxRecDepth 100000 in
set_option maxHeartbeats 4000000 in
theorem law_walk (nb : Nat) (ea : Option Addr) (len cap eb eo : Nat) (x y : Nat → Nat) (t : Int) (w : World) (hnb : nb < 256) (hx : ∀ i, i < len → x i < 256) (hy : ∀ i, i < len → y i < 256)
    (hcell : ∀ i, i < len → ea = some ⟨eb, eo, none⟩ ∧ w.cell? ⟨eb, eo + i * 2, none⟩ = some (.int .u8 (x i : Int)) ∧ w.cell? ⟨eb, eo + i * 2 + 1, none⟩ = some (.int .u8 (y i : Int))) (heb : 0 < len → eb < w.heap.size) :
    Calls Yba.prog 3 #[.int .u8 (nb : Int), .slice ea len cap, .int .i32 t] w fun e w' => e = .returned (.bool true) ∧ Below w.heap.size w w' := by
  have HCell : Hid (∀ i, i < len → ea = some ⟨eb, eo, none⟩ ∧ w.cell? ⟨eb, eo + i * 2, none⟩ = some (.int .u8 (x i : Int)) ∧ w.cell? ⟨eb, eo + i * 2 + 1, none⟩ = some (.int .u8 (y i : Int))) := hcell
  have HX : Hid (∀ i, i < len → x i < 256) := hx
  have HY : Hid (∀ i, i < len → y i < 256) := hy
  have HEB : Hid (0 < len → eb < w.heap.size) := heb
  clear hcell hx hy heb
  go_enter Yba.func3, Yba.ntmps3
  by_cases hbig : (len : Int) > 1024
  · go_wp2
    go_ret
    exact ⟨rfl, Below.refl _ _⟩
  · go_upto_if 36 with fail
    have hlen : len ≤ 1024 := by omega
    rw [show (nb : Int) % 49 = ((nb % 49 : Nat) : Int) by omega]
    have hn : nb % 49 ≤ 48 := by omega
    generalize nb % 49 = n at hn ⊢
    clear hnb hbig
    go_cut [8, 9] (fun fv tv wx => ∃ (m : Nat) (F T : Nat → Nat), m ≤ 1024 ∧ (∀ i, i < m → F i < n) ∧ (∀ i, i < m → T i < n) ∧ LRows w.heap.size m m F T fv tv wx ∧ Below w.heap.size w wx)
    case first =>
      by_cases h0 : 0 < n
      · have h0i : (0 : Int) < (n : Int) := by omega
        rw [show decide ((0 : Int) < (n : Int)) = true from decide_eq_true h0i]
        go_wp2
        go_loopg [8, 9, 39] len (fun gk fv tv i wr => ∃ k : Nat, k ≤ len ∧ gk + k = len ∧ i = .int .i64 (k : Int) ∧ LRows w.heap.size k k (fun i => x i % n) (fun i => y i % n) fv tv wr ∧ Below w.heap.size w wr)
        case atStart => exact ⟨0, Nat.zero_le _, rfl, rfl, LRows.nil _ _ _ _ (Nat.le_refl _), Below.refl _ _⟩
        case round =>
          obtain ⟨k, hk, hgk, rfl, hL, hB⟩ := hrel
          by_cases hkl : k < len
          · have hki : (k : Int) < (len : Int) := by omega
            obtain ⟨rfl, c1, c2⟩ := HCell.out k hkl
            have hebs := HEB.out (by omega)
            have hxk := HX.out k hkl
            have hyk := HY.out k hkl
            have d1 : wr.cell? ⟨eb, eo + k * 2, none⟩ = some (.int .u8 (x k : Int)) := (hB.cell hebs).trans c1
            have d2 : wr.cell? ⟨eb, eo + k * 2 + 1, none⟩ = some (.int .u8 (y k : Int)) := (hB.cell hebs).trans c2
            have HL3 : Hid (LRows w.heap.size k k (fun i => x i % n) (fun i => y i % n) u8 u9 (wr.alloc (.cells #[.int .u8 (x k : Int), .int .u8 (y k : Int)] 25))) := hL.alloc _
            have HB3 : Hid (Below w.heap.size w (wr.alloc (.cells #[.int .u8 (x k : Int), .int .u8 (y k : Int)] 25))) := hB.alloc hL.sz _
            have HN8 : Hid (∀ b, u8.ownBlock = some b → b < wr.heap.size) := fun b hb => (hL.f.lt b hb).2
            have HN9 : Hid (∀ b, u9.ownBlock = some b → b < wr.heap.size) := fun b hb => (hL.t.lt b hb).2
            have hE : Blk (wr.alloc (.cells #[.int .u8 (x k : Int), .int .u8 (y k : Int)] 25)) wr.heap.size 25 #[.int .u8 (x k : Int), .int .u8 (y k : Int)] := Blk.new _ _ _
            have HE : Hid (Blk (wr.alloc (.cells #[.int .u8 (x k : Int), .int .u8 (y k : Int)] 25)) wr.heap.size 25 #[.int .u8 (x k : Int), .int .u8 (y k : Int)]) := hE
            have e1 : (wr.alloc (.cells #[.int .u8 (x k : Int), .int .u8 (y k : Int)] 25)).cell? ⟨wr.heap.size, 0, none⟩ = some (.int .u8 (x k : Int)) := by rw [hE.cell]; rfl
            clear hL hB c1 c2 hE
            go_upto_region 9 with fail
            clear d1 d2
            generalize wr.alloc (.cells #[.int .u8 (x k : Int), .int .u8 (y k : Int)] 25) = w3 at HL3 HB3 HE e1 ⊢
            generalize wr.heap.size = pe at HN8 HN9 HE e1 ⊢
            obtain ⟨i2, hi2, hz20, hz21, hz22⟩ := info_parts info21
            have hw3 := HL3.out.sz
            go_wp2_with (first
              | (at_builtin; refine wpList_append_lies _ rfl _ _ 23 rfl w.heap.size 21 i2 (.int .i32 0) 1 4 Yba.underlying23 hi2 hz20 hz21 hz22 rfl (by decide) u8 k (row (fun i => x i % n) k) rfl (HL3.out.f.alloc _) ⟨w3.heap.size, 0, none⟩ 1 1 [.int .i32 (wrap32 ((x k : Int) % (n : Int)))] rfl rfl (cell_one_new _ _ _) (by intro u hu; simp at hu; subst hu; rfl) (by decide) (by unfold maxLen; omega) (by omega) (by simp; omega) _ rfl ?_; intro gf capf w4 hown4 hgrow4 hat4 _
                 have HL4 : Hid (LRows w.heap.size (k + 1) k (fun i => x i % n) (fun i => y i % n) (.slice (some ⟨gf, 0, none⟩) (k + 1) capf) u9 w4) := (HL3.out.alloc _).pushF' hgrow4 hown4 hat4 (wrap_mod _ _ hxk)
                 have HB4 : Hid (Below w.heap.size w w4) := below_own (HB3.out.alloc hw3 _) (by simp; omega) (HL3.out.f.alloc _) hgrow4
                 have e4 : w4.cell? ⟨pe, 1, none⟩ = some (.int .u8 (y k : Int)) := by (rw [((HE.out.alloc _).grown hgrow4 (fun e => by have := HN8.out pe e.symm; omega)).cell]; rfl)
                 have hw4 := HL4.out.sz
                 clear hown4 hgrow4 hat4)
              | (at_builtin; refine wpList_append_lies _ rfl _ _ 23 rfl w.heap.size 21 i2 (.int .i32 0) 1 4 Yba.underlying23 hi2 hz20 hz21 hz22 rfl (by decide) u9 k (row (fun i => y i % n) k) rfl (HL4.out.t.alloc _) ⟨w4.heap.size, 0, none⟩ 1 1 [.int .i32 (wrap32 ((y k : Int) % (n : Int)))] rfl rfl (cell_one_new _ _ _) (by intro u hu; simp at hu; subst hu; rfl) (by decide) (by unfold maxLen; omega) (by omega) (by simp; omega) _ rfl ?_; intro gt capt w5 hown5 hgrow5 hat5 _
                 have HL5 : Hid (LRows w.heap.size (k + 1) (k + 1) (fun i => x i % n) (fun i => y i % n) (.slice (some ⟨gf, 0, none⟩) (k + 1) capf) (.slice (some ⟨gt, 0, none⟩) (k + 1) capt) w5) := (HL4.out.alloc _).pushT' hgrow5 hown5 hat5 (wrap_mod _ _ hyk)
                 have HB5 : Hid (Below w.heap.size w w5) := below_own (HB4.out.alloc hw4 _) (by simp; omega) (HL4.out.t.alloc _) hgrow5
                 clear hown5 hgrow5 hat5))
            go_roundg (gk - 1)
            case measure => omega
            case rel => exact ⟨k + 1, by omega, by omega, by go_num, HL5.out, HB5.out⟩
          · have hki : ¬ (k : Int) < (len : Int) := by omega
            obtain rfl : k = len := by omega
            have HL : Hid (LRows w.heap.size k k (fun i => x i % n) (fun i => y i % n) u8 u9 wr) := hL
            have HB : Hid (Below w.heap.size w wr) := hB
            clear hL hB
            go_wp2
            go_meet
            case rel => exact ⟨k, _, _, hlen, fun i _ => Nat.mod_lt _ h0, fun i _ => Nat.mod_lt _ h0, HL.out, HB.out⟩
      · obtain rfl : n = 0 := by omega
        go_wp2
        go_meet
        case rel => exact ⟨0, fun _ => 0, fun _ => 0, by omega, fun i hi => absurd hi (Nat.not_lt_zero _), fun i hi => absurd hi (Nat.not_lt_zero _), LRows.nil _ _ _ _ (Nat.le_refl _), Below.refl _ _⟩
    case rest =>
      obtain ⟨m, F, T, hm, hF, hT, hL, hB⟩ := hcut
      obtain ⟨fa, fc, fb, rfl, hfb, hfc⟩ := row_form hL.f
      obtain ⟨ta, tc, tb, rfl, htb, htc⟩ := row_form hL.t
      have HFb : Hid (0 < m → fb < wc.heap.size) := hfb
      have HTb : Hid (0 < m → tb < wc.heap.size) := htb
      have HFc : Hid (∀ i, i < m → fa = some ⟨fb, 0, none⟩ ∧ wc.cell? ⟨fb, i, none⟩ = some (.int .i32 (F i : Int))) := hfc
      have HTc : Hid (∀ i, i < m → ta = some ⟨tb, 0, none⟩ ∧ wc.cell? ⟨tb, i, none⟩ = some (.int .i32 (T i : Int))) := htc
      have HF : Hid (∀ i, i < m → F i < n) := hF
      have HT : Hid (∀ i, i < m → T i < n) := hT
      have HB : Hid (Below w.heap.size w wc) := hB
      have HZ : Hid (w.heap.size ≤ wc.heap.size) := hL.sz
      clear hfb htb hfc htc hF hT hB hL HCell HX HY HEB
      have hmk := fun W => run_make_row' (P := Yba.prog) 26 3 (.int .i64 0) 8 Yba.underlying26 info3 rfl .i64 .i64 (n + 1) (by omega) (by omega) W
      simp only [Int.natCast_add, Int.natCast_one] at hmk
      go_upto_region 13 with fail
      clear hmk
      have hS0 : Blk (wc.alloc (.cells (madeCells #[.int .i64 0] (n + 1)) 3)) wc.heap.size 3 (lints (n + 1) (Tj.c2 F 0)) := by rw [Tj.c2_zero, ← made_lints]; exact Blk.new _ _ _
      have HS0 : Hid (Blk (wc.alloc (.cells (madeCells #[.int .i64 0] (n + 1)) 3)) wc.heap.size 3 (lints (n + 1) (Tj.c2 F 0))) := hS0
      have HB0 : Hid (Below wc.heap.size wc (wc.alloc (.cells (madeCells #[.int .i64 0] (n + 1)) 3))) := (Below.refl _ _).alloc (Nat.le_refl _) _
      clear hS0
      generalize wc.alloc (.cells (madeCells #[.int .i64 0] (n + 1)) 3) = w2 at HS0 HB0 ⊢
      generalize hbS : wc.heap.size = bS at HS0 HB0 HFb HTb HZ ⊢
      go_wp2
      go_loopg [67] m (fun gk i wr => ∃ k : Nat, k ≤ m ∧ gk + k = m ∧ i = .int .i64 (k : Int) ∧ Blk wr bS 3 (lints (n + 1) (Tj.c2 F k)) ∧ Below bS wc wr)
      case atStart => exact ⟨0, Nat.zero_le _, rfl, rfl, HS0.out, HB0.out⟩
      case round =>
        clear HS0 HB0
        obtain ⟨k, hk, hgk, rfl, hS, hBw⟩ := hrel
        by_cases hkl : k < m
        · have hki : (k : Int) < (m : Int) := by omega
          obtain ⟨rfl, hcf⟩ := HFc.out k hkl
          have d1 : wr.cell? ⟨fb, k, none⟩ = some (.int .i32 (F k : Int)) := (hBw.cell (HFb.out (by omega))).trans hcf
          have hFk := HF.out k hkl
          have d2 : wr.cell? ⟨bS, F k + 1, none⟩ = some (.int .i64 (Tj.c2 F k (F k + 1) : Int)) := by rw [hS.cell, lints_at _ _ _ (by omega)]
          have f2 : wr.frozen? ⟨bS, F k + 1, none⟩ = false := hS.free _
          have hz : Tj.c2 F k (F k + 1) ≤ 1024 := by have := Tj.cnt_le F (F k) k; show (if F k + 1 = 0 then 0 else Tj.cnt F k (F k + 1 - 1)) ≤ 1024; rw [if_neg (by omega), Nat.add_sub_cancel]; omega
          have hS' : Blk (wr.setCell ⟨bS, F k + 1, none⟩ (.int .i64 ((Tj.c2 F k (F k + 1) + 1 : Nat) : Int))) bS 3 (lints (n + 1) (Tj.c2 F (k + 1))) := by rw [← Tj.c2_step, ← lints_set]; exact hS.set _ _
          rw [Int.natCast_add, Int.natCast_one] at hS'
          have HS' : Hid (Blk (wr.setCell ⟨bS, F k + 1, none⟩ (.int .i64 ((Tj.c2 F k (F k + 1) : Int) + 1))) bS 3 (lints (n + 1) (Tj.c2 F (k + 1)))) := hS'
          have HBw : Hid (Below bS wc (wr.setCell ⟨bS, F k + 1, none⟩ (.int .i64 ((Tj.c2 F k (F k + 1) : Int) + 1)))) := hBw.setCell (Nat.le_refl _) _
          generalize Tj.c2 F k (F k + 1) = z at d2 hz HS' HBw
          generalize F k = f at d1 hFk d2 f2 HS' HBw
          have hfi : (f : Int) < (n : Int) := by omega
          clear hS hBw hcf hS'
          go_wp2
          go_roundg (gk - 1)
          case measure => omega
          case rel => exact ⟨k + 1, by omega, by omega, by go_num, HS'.out, HBw.out⟩
        · obtain rfl : m = k := by omega
          have hki : ¬ (m : Int) < (m : Int) := by omega
          have HS1 : Hid (Blk wr bS 3 (lints (n + 1) (Tj.c3 F m 0))) := by rw [Tj.c3_zero]; exact hS
          have HB1 : Hid (Below bS wc wr) := hBw
          clear hS hBw hgk hkl
          go_wp2
          go_loopg [15] n (fun gk i wr => ∃ j : Nat, j ≤ n ∧ gk + j = n ∧ i = .int .i64 (j : Int) ∧ Blk wr bS 3 (lints (n + 1) (Tj.c3 F m j)) ∧ Below bS wc wr)
          case atStart => exact ⟨0, Nat.zero_le _, rfl, rfl, HS1.out, HB1.out⟩
          case round =>
            clear HS1 HB1
            obtain ⟨j, hj, hgk, rfl, hS, hBw⟩ := hrel
            by_cases hjl : j < n
            · have hji : (j : Int) < (n : Int) := by omega
              have d1 : wr.cell? ⟨bS, j + 1, none⟩ = some (.int .i64 (Tj.c3 F m j (j + 1) : Int)) := by rw [hS.cell, lints_at _ _ _ (by omega)]
              have d2 : wr.cell? ⟨bS, j, none⟩ = some (.int .i64 (Tj.c3 F m j j : Int)) := by rw [hS.cell, lints_at _ _ _ (by omega)]
              have f1 : wr.frozen? ⟨bS, j + 1, none⟩ = false := hS.free _
              have hz1 : Tj.c3 F m j (j + 1) ≤ 1024 := by
                show (if j + 1 ≤ j then Tj.stOf F m (j + 1) else if j + 1 = 0 then 0 else Tj.cnt F m (j + 1 - 1)) ≤ 1024
                rw [if_neg (by omega), if_neg (by omega), Nat.add_sub_cancel]
                have := Tj.cnt_le F j m
                omega
              have hz2 : Tj.c3 F m j j ≤ 1024 := by
                rw [Tj.c3_last F m j j (Nat.le_refl _)]
                have := Tj.stOf_le F n m HF.out (u := j) (by omega)
                omega
              have hS' : Blk (wr.setCell ⟨bS, j + 1, none⟩ (.int .i64 ((Tj.c3 F m j (j + 1) + Tj.c3 F m j j : Nat) : Int))) bS 3 (lints (n + 1) (Tj.c3 F m (j + 1))) := by rw [← Tj.c3_step, ← lints_set]; exact hS.set _ _
              rw [Int.natCast_add] at hS'
              have HS' : Hid (Blk (wr.setCell ⟨bS, j + 1, none⟩ (.int .i64 ((Tj.c3 F m j (j + 1) : Int) + (Tj.c3 F m j j : Int)))) bS 3 (lints (n + 1) (Tj.c3 F m (j + 1)))) := hS'
              have HBw : Hid (Below bS wc (wr.setCell ⟨bS, j + 1, none⟩ (.int .i64 ((Tj.c3 F m j (j + 1) : Int) + (Tj.c3 F m j j : Int))))) := hBw.setCell (Nat.le_refl _) _
              generalize Tj.c3 F m j (j + 1) = z1 at d1 hz1 HS' HBw
              generalize Tj.c3 F m j j = z2 at d2 hz2 HS' HBw
              clear hS hBw hS'
              go_wp2
              go_region
              go_wp2
              go_roundg (gk - 1)
              case measure => omega
              case rel => exact ⟨j + 1, by omega, by omega, by go_num, HS'.out, HBw.out.drew⟩
            · obtain rfl : n = j := by omega
              have hji : ¬ (n : Int) < (n : Int) := by omega
              have HS2 : Hid (Blk wr bS 3 (lints (n + 1) (Tj.stOf F m))) := by rw [lints_congr (f' := Tj.c3 F m n) (fun i hi => (Tj.c3_last F m n i (by omega)).symm)]; exact hS
              have HB2 : Hid (Below bS wc wr) := hBw
              clear hS hBw hgk hjl
              have hmx := fun W => run_make_row' (P := Yba.prog) 23 21 (.int .i32 0) 4 Yba.underlying23 info21 rfl .i64 .i64 m (by omega) (by omega) W
              have hmf := fun W => run_make_row' (P := Yba.prog) 26 3 (.int .i64 0) 8 Yba.underlying26 info3 rfl .i64 .i64 n (by omega) (by omega) W
              go_upto_region 24 with fail
              clear hmx hmf
              have hbs : bS < wr.heap.size := HS2.out.lt
              have hX3 : Blk ((wr.alloc (.cells (madeCells #[.int .i32 0] m) 21)).alloc (.cells (madeCells #[.int .i64 0] n) 3)) wr.heap.size 21 (ints m (Tj.scOf F T m 0)) := by rw [show Tj.scOf F T m 0 = fun _ => 0 from rfl, ← made_ints]; exact (Blk.new _ _ _).alloc _
              have hF3 : Blk ((wr.alloc (.cells (madeCells #[.int .i32 0] m) 21)).alloc (.cells (madeCells #[.int .i64 0] n) 3)) (wr.heap.size + 1) 3 (lints n (fun _ => 0)) := by rw [← made_lints, ← World.size_alloc wr (.cells (madeCells #[.int .i32 0] m) 21)]; exact Blk.new _ _ _
              have HX3 : Hid (Blk ((wr.alloc (.cells (madeCells #[.int .i32 0] m) 21)).alloc (.cells (madeCells #[.int .i64 0] n) 3)) wr.heap.size 21 (ints m (Tj.scOf F T m 0))) := hX3
              have HF3 : Hid (Blk ((wr.alloc (.cells (madeCells #[.int .i32 0] m) 21)).alloc (.cells (madeCells #[.int .i64 0] n) 3)) (wr.heap.size + 1) 3 (lints n (fun _ => 0))) := hF3
              have HS3 : Hid (Blk ((wr.alloc (.cells (madeCells #[.int .i32 0] m) 21)).alloc (.cells (madeCells #[.int .i64 0] n) 3)) bS 3 (lints (n + 1) (Tj.stOf F m))) := (HS2.out.alloc _).alloc _
              have HB3 : Hid (Below bS wc ((wr.alloc (.cells (madeCells #[.int .i32 0] m) 21)).alloc (.cells (madeCells #[.int .i64 0] n) 3))) := (HB2.out.alloc (by omega) _).alloc (by simp; omega) _
              clear HS2 HB2 hX3 hF3
              generalize (wr.alloc (.cells (madeCells #[.int .i32 0] m) 21)).alloc (.cells (madeCells #[.int .i64 0] n) 3) = w3 at HX3 HF3 HS3 HB3 ⊢
              generalize hbX : wr.heap.size = bX at hbs HX3 HF3 ⊢
              have HSrc : Hid (∀ j v, (lintsL n (Tj.stOf F m))[j]? = some v → w3.cell? ((⟨bS, 0, none⟩ : Addr).add j) = some v) := by
                intro j v hv
                obtain ⟨hj, rfl⟩ := lintsL_at n _ j v hv
                have add : (⟨bS, 0, none⟩ : Addr).add j = ⟨bS, j, none⟩ := by unfold Addr.add; split <;> simp_all
                rw [add, HS3.out.cell, lints_at _ _ _ (by omega)]
              go_wp2_with (refine wpList_copy_splice rfl _ _ 26 26 rfl 3 Yba.underlying26 size3 (some ⟨bX + 1, 0, none⟩) (some ⟨bS, 0, none⟩) n n n (n + 1) rfl rfl (bX + 1) 0 (lintsL n (fun _ => 0)) 3 HF3.out (lintsL n (Tj.stOf F m)) (by rw [lintsL_length]; exact (Nat.min_self n).symm) (fun _ => ⟨rfl, _, rfl, HSrc.out⟩) (by rw [lintsL_length, lintsL_length]; omega) (by intro v hv; obtain ⟨i, hi⟩ := List.getElem?_of_mem hv; obtain ⟨_, rfl⟩ := lintsL_at n _ i v hi; rfl) (bX + 1) w3 (Below.refl _ _) (Nat.le_refl _) ?_; intro w4 hF4 hB4)
              have HF4 : Hid (Blk w4 (bX + 1) 3 (lints n (Tj.c4 F m 0))) := by
                have h := hF4.out
                rw [splice_all] at h
                rw [Tj.c4_zero]
                exact h
              have HX4 : Hid (Blk w4 bX 21 (ints m (Tj.scOf F T m 0))) := HX3.out.below hB4 (by omega)
              have HS4 : Hid (Blk w4 bS 3 (lints (n + 1) (Tj.stOf F m))) := HS3.out.below hB4 (by omega)
              have HB4 : Hid (Below bS wc w4) := HB3.out.trans (hB4.mono (by omega))
              clear hF4 hB4 HX3 HF3 HS3 HB3 HSrc
              generalize hbF : bX + 1 = bF at HF4 ⊢
              have hXF : bX < bF := by omega
              clear hbF hbX
              go_loopg [18] m (fun gk i wr => ∃ k : Nat, k ≤ m ∧ gk + k = m ∧ i = .int .i64 (k : Int) ∧ Blk wr bX 21 (ints m (Tj.scOf F T m k)) ∧ Blk wr bF 3 (lints n (Tj.c4 F m k)) ∧ Blk wr bS 3 (lints (n + 1) (Tj.stOf F m)) ∧ Below bS wc wr)
              case atStart => exact ⟨0, Nat.zero_le _, rfl, rfl, HX4.out, HF4.out, HS4.out, HB4.out⟩
              case round =>
                clear HX4 HF4 HS4 HB4
                obtain ⟨k, hk, hgk, rfl, hX, hFi, hS, hBw⟩ := hrel
                by_cases hkl : k < m
                · have hki : (k : Int) < (m : Int) := by omega
                  obtain ⟨rfl, hcf⟩ := HFc.out k hkl
                  obtain ⟨rfl, hct⟩ := HTc.out k hkl
                  have hfl := HFb.out (by omega)
                  have htl := HTb.out (by omega)
                  have d1 : wr.cell? ⟨fb, k, none⟩ = some (.int .i32 (F k : Int)) := (hBw.cell hfl).trans hcf
                  have d2 : wr.cell? ⟨tb, k, none⟩ = some (.int .i32 (T k : Int)) := (hBw.cell htl).trans hct
                  have hFk := HF.out k hkl
                  have hTk := HT.out k hkl
                  have hzm : Tj.c4 F m k (F k) < m := Tj.place_lt F n m HF.out hkl
                  have d3 : wr.cell? ⟨bF, F k, none⟩ = some (.int .i64 (Tj.c4 F m k (F k) : Int)) := by rw [hFi.cell, lints_at _ _ _ hFk]
                  have d4 : wr.cell? ⟨bX, Tj.c4 F m k (F k), none⟩ = some (.int .i32 (Tj.scOf F T m k (Tj.c4 F m k (F k)) : Int)) := by rw [hX.cell, ints_at _ _ _ hzm]
                  have f4 : wr.frozen? ⟨bX, Tj.c4 F m k (F k), none⟩ = false := hX.free _
                  have hX1 : Blk (wr.setCell ⟨bX, Tj.c4 F m k (F k), none⟩ (.int .i32 (T k : Int))).drew bX 21 (ints m (Tj.scOf F T m (k + 1))) := by
                    rw [show Tj.scOf F T m (k + 1) = Tj.upd (Tj.scOf F T m k) (Tj.c4 F m k (F k)) (T k) from rfl, ← ints_set]
                    exact hX.set _ _
                  have hF1 : Blk (wr.setCell ⟨bX, Tj.c4 F m k (F k), none⟩ (.int .i32 (T k : Int))).drew bF 3 (lints n (Tj.c4 F m k)) := hFi.other (by show bF ≠ bX; omega) _
                  have hS1 : Blk (wr.setCell ⟨bX, Tj.c4 F m k (F k), none⟩ (.int .i32 (T k : Int))).drew bS 3 (lints (n + 1) (Tj.stOf F m)) := hS.other (by show bS ≠ bX; omega) _
                  have hB1 : Below bS wc (wr.setCell ⟨bX, Tj.c4 F m k (F k), none⟩ (.int .i32 (T k : Int))).drew := (hBw.setCell (by show bS ≤ bX; omega) _).drew
                  have e1 : (wr.setCell ⟨bX, Tj.c4 F m k (F k), none⟩ (.int .i32 (T k : Int))).drew.cell? ⟨fb, k, none⟩ = some (.int .i32 (F k : Int)) := (hB1.cell hfl).trans hcf
                  have e3 : (wr.setCell ⟨bX, Tj.c4 F m k (F k), none⟩ (.int .i32 (T k : Int))).drew.cell? ⟨bF, F k, none⟩ = some (.int .i64 (Tj.c4 F m k (F k) : Int)) := by rw [hF1.cell, lints_at _ _ _ hFk]
                  have g3 : (wr.setCell ⟨bX, Tj.c4 F m k (F k), none⟩ (.int .i32 (T k : Int))).drew.frozen? ⟨bF, F k, none⟩ = false := hF1.free _
                  have hF2 : Blk ((wr.setCell ⟨bX, Tj.c4 F m k (F k), none⟩ (.int .i32 (T k : Int))).drew.setCell ⟨bF, F k, none⟩ (.int .i64 ((Tj.c4 F m k (F k) + 1 : Nat) : Int))) bF 3 (lints n (Tj.c4 F m (k + 1))) := by
                    rw [← Tj.c4_step, ← lints_set]
                    exact hF1.set _ _
                  rw [Int.natCast_add, Int.natCast_one] at hF2
                  have HX1 : Hid (Blk (wr.setCell ⟨bX, Tj.c4 F m k (F k), none⟩ (.int .i32 (T k : Int))).drew bX 21 (ints m (Tj.scOf F T m (k + 1)))) := hX1
                  have HF2 : Hid (Blk ((wr.setCell ⟨bX, Tj.c4 F m k (F k), none⟩ (.int .i32 (T k : Int))).drew.setCell ⟨bF, F k, none⟩ (.int .i64 ((Tj.c4 F m k (F k) : Int) + 1))) bF 3 (lints n (Tj.c4 F m (k + 1)))) := hF2
                  have HS1 : Hid (Blk (wr.setCell ⟨bX, Tj.c4 F m k (F k), none⟩ (.int .i32 (T k : Int))).drew bS 3 (lints (n + 1) (Tj.stOf F m))) := hS1
                  have HB1 : Hid (Below bS wc (wr.setCell ⟨bX, Tj.c4 F m k (F k), none⟩ (.int .i32 (T k : Int))).drew) := hB1
                  clear hX hFi hS hBw hX1 hF1 hS1 hB1 hF2 hcf hct hfl htl
                  generalize Tj.scOf F T m k (Tj.c4 F m k (F k)) = old at d4
                  generalize Tj.c4 F m k (F k) = z at hzm d3 d4 f4 e1 e3 g3 HX1 HF2 HS1 HB1
                  generalize F k = f at d1 d3 hFk e1 e3 g3 HF2
                  generalize T k = tt at d2 hTk e1 e3 g3 HX1 HF2 HS1 HB1
                  have hfi : (f : Int) < (n : Int) := by omega
                  have hzi : (z : Int) < (m : Int) := by omega
                  go_wp2
                  go_region
                  clear d1 d2 d3 d4 f4
                  generalize (wr.setCell ⟨bX, z, none⟩ (.int .i32 (tt : Int))).drew = w5 at e1 e3 g3 HX1 HF2 HS1 HB1 ⊢
                  go_wp2
                  go_roundg (gk - 1)
                  case measure => omega
                  case rel => exact ⟨k + 1, by omega, by omega, by go_num, HX1.out.other (by show bX ≠ bF; omega) _, HF2.out, HS1.out.other (by show bS ≠ bF; omega) _, HB1.out.setCell (by show bS ≤ bF; omega) _⟩
                · obtain rfl : m = k := by omega
                  have hki : ¬ (m : Int) < (m : Int) := by omega
                  have hGM : GMem (Tj.csr n m F T) m bS bX wr := ⟨fun i hi => by rw [hS.cell, lints_at _ _ _ (by have : i ≤ n := hi; omega)]; rfl, fun c hc => by rw [hX.cell, ints_at _ _ _ hc]; rfl⟩
                  have HGM : Hid (GMem (Tj.csr n m F T) m bS bX wr) := hGM
                  have HB5 : Hid (Below bS wc wr) := hBw
                  have hXs := hX.lt
                  clear hX hFi hS hBw hGM hgk hkl
                  go_wp2_with fail
                  refine (smallest_any (Tj.csr n m F T) m bS bX t _ HGM.out (by omega) hXs (Tj.csr_ok n m F T HT.out) (fun v _ => Tj.stOf_mono F m (Nat.le_succ v)) (fun v hv => Tj.stOf_le F n m HF.out hv) hn hm).mono ?_
                  rintro e w6 ⟨⟨got, hgot, rfl⟩, hB6⟩
                  have HGot : Hid (Tj.IsMin (Tj.csr n m F T) t got) := hgot
                  have HB7 : Hid (Below bS wc w6) := HB5.out.trans (hB6.mono (by omega))
                  have hs6 : bS < w6.heap.size := by have := hB6.size; omega
                  clear hgot hB6 HGM HB5 hXs hXF
                  have hnn : n * n ≤ 48 * 48 := Nat.mul_le_mul hn hn
                  have hmb := fun W => run_make_row' (P := Yba.prog) 30 4 (.bool false) 1 Yba.underlying30 info4 rfl .i64 .i64 (n * n) (by omega) (by omega) W
                  simp only [Int.natCast_mul] at hmb
                  have hnni : (n : Int) * (n : Int) ≤ 2304 := by rw [← Int.natCast_mul]; omega
                  have hnn0 : (0 : Int) ≤ (n : Int) * (n : Int) := by rw [← Int.natCast_mul]; omega
                  go_upto_region 32 with fail
                  clear hmb
                  have HR7 : Hid (Blk (w6.alloc (.cells (madeCells #[.bool false] (n * n)) 4)) w6.heap.size 4 (mat n (dg 0))) := by
                    rw [mat_congr (R' := fun _ _ => false) (fun a x _ _ => by simp [dg]), ← made_mat]
                    exact Blk.new _ _ _
                  have HB8 : Hid (Below bS wc (w6.alloc (.cells (madeCells #[.bool false] (n * n)) 4))) := HB7.out.alloc (by omega) _
                  clear HB7
                  generalize w6.alloc (.cells (madeCells #[.bool false] (n * n)) 4) = w7 at HR7 HB8 ⊢
                  generalize w6.heap.size = bR at HR7 hs6 ⊢
                  generalize hN : n * n = N at hnn ⊢
                  go_wp2
                  go_loopg [21] n (fun gk i wr => ∃ j : Nat, j ≤ n ∧ gk + j = n ∧ i = .int .i64 (j : Int) ∧ Blk wr bR 4 (mat n (dg j)) ∧ Below bS wc wr)
                  case atStart => exact ⟨0, Nat.zero_le _, rfl, rfl, HR7.out, HB8.out⟩
                  case round =>
                    clear HR7 HB8
                    obtain ⟨j, hj, hgk, rfl, hR, hBw⟩ := hrel
                    by_cases hjl : j < n
                    · have hji : (j : Int) < (n : Int) := by omega
                      obtain ⟨b1, b2, b3, b4⟩ := idx_facts hn hN hjl hjl
                      have d1 : wr.cell? ⟨bR, j * n + j, none⟩ = some (.bool (dg j j j)) := by rw [hR.cell, mat_at _ _ hjl hjl]
                      have f1 : wr.frozen? ⟨bR, j * n + j, none⟩ = false := hR.free _
                      have HR1 : Hid (Blk (wr.setCell ⟨bR, j * n + j, none⟩ (.bool true)) bR 4 (mat n (dg (j + 1)))) := by rw [← dg_step, ← mat_set _ _ hjl hjl]; exact hR.set _ _
                      have HB1 : Hid (Below bS wc (wr.setCell ⟨bR, j * n + j, none⟩ (.bool true))) := hBw.setCell (by show bS ≤ bR; omega) _
                      clear hR hBw
                      generalize dg j j j = z at d1
                      go_wp2
                      go_roundg (gk - 1)
                      case measure => omega
                      case rel => exact ⟨j + 1, by omega, by omega, by go_num, HR1.out, HB1.out⟩
                    · obtain rfl : n = j := by omega
                      have hji : ¬ (n : Int) < (n : Int) := by omega
                      have HR8 : Hid (Blk wr bR 4 (mat n (Tj.r0 F T 0))) := by rw [mat_congr (R' := dg n) (fun a x ha _ => (dg_last F T n ha).symm)]; exact hR
                      have HB8 : Hid (Below bS wc wr) := hBw
                      clear hR hBw hgk hjl
                      go_wp2
                      go_loopg [22] m (fun gk i wr => ∃ k : Nat, k ≤ m ∧ gk + k = m ∧ i = .int .i64 (k : Int) ∧ Blk wr bR 4 (mat n (Tj.r0 F T k)) ∧ Below bS wc wr)
                      case atStart => exact ⟨0, Nat.zero_le _, rfl, rfl, HR8.out, HB8.out⟩
                      case round =>
                        clear HR8 HB8
                        obtain ⟨k, hk, hgk, rfl, hR, hBw⟩ := hrel
                        by_cases hkl : k < m
                        · have hki : (k : Int) < (m : Int) := by omega
                          obtain ⟨rfl, hcf⟩ := HFc.out k hkl
                          obtain ⟨rfl, hct⟩ := HTc.out k hkl
                          have d1 : wr.cell? ⟨fb, k, none⟩ = some (.int .i32 (F k : Int)) := (hBw.cell (HFb.out (by omega))).trans hcf
                          have d2 : wr.cell? ⟨tb, k, none⟩ = some (.int .i32 (T k : Int)) := (hBw.cell (HTb.out (by omega))).trans hct
                          have hFk := HF.out k hkl
                          have hTk := HT.out k hkl
                          obtain ⟨b1, b2, b3, b4⟩ := idx_facts hn hN hFk hTk
                          have d3 : wr.cell? ⟨bR, F k * n + T k, none⟩ = some (.bool (Tj.r0 F T k (F k) (T k))) := by rw [hR.cell, mat_at _ _ hFk hTk]
                          have f3 : wr.frozen? ⟨bR, F k * n + T k, none⟩ = false := hR.free _
                          have HR1 : Hid (Blk (wr.setCell ⟨bR, F k * n + T k, none⟩ (.bool true)) bR 4 (mat n (Tj.r0 F T (k + 1)))) := by rw [← r0_step, ← mat_set _ _ hFk hTk]; exact hR.set _ _
                          have HB1 : Hid (Below bS wc (wr.setCell ⟨bR, F k * n + T k, none⟩ (.bool true))) := hBw.setCell (by show bS ≤ bR; omega) _
                          clear hR hBw hcf hct
                          generalize Tj.r0 F T k (F k) (T k) = z at d3
                          generalize F k = f at d1 hFk b1 b2 b3 b4 d3 f3 HR1 HB1
                          generalize T k = tt at d2 hTk b3 b4 d3 f3 HR1 HB1
                          go_wp2
                          go_region
                          go_wp2
                          go_roundg (gk - 1)
                          case measure => omega
                          case rel => exact ⟨k + 1, by omega, by omega, by go_num, HR1.out, HB1.out.drew⟩
                        · obtain rfl : m = k := by omega
                          have hki : ¬ (m : Int) < (m : Int) := by omega
                          have HR9 : Hid (Blk wr bR 4 (mat n (Tj.Wst (Tj.r0 F T m) 0))) := hR
                          have HB9 : Hid (Below bS wc wr) := hBw
                          clear hR hBw hgk hkl HF HFc HTc HFb HTb
                          go_wp2
                          go_loopg [23] n (fun gk i wr => ∃ k : Nat, k ≤ n ∧ gk + k = n ∧ i = .int .i64 (k : Int) ∧ Blk wr bR 4 (mat n (Tj.Wst (Tj.r0 F T m) k)) ∧ Below bS wc wr)
                          case atStart => exact ⟨0, Nat.zero_le _, rfl, rfl, HR9.out, HB9.out⟩
                          case round =>
                            clear HR9 HB9
                            obtain ⟨k, hk, hgk7, rfl, hR, hBw⟩ := hrel
                            by_cases hkl : k < n
                            · have hki : (k : Int) < (n : Int) := by omega
                              have HR1 : Hid (Blk wr bR 4 (mat n (Wm (Tj.r0 F T m) k 0 0))) := by rw [Wm_start]; exact hR
                              have HB1 : Hid (Below bS wc wr) := hBw
                              clear hR hBw
                              go_wp2
                              go_loopg [24] n (fun gk i wr => ∃ a : Nat, a ≤ n ∧ gk + a = n ∧ i = .int .i64 (a : Int) ∧ Blk wr bR 4 (mat n (Wm (Tj.r0 F T m) k a 0)) ∧ Below bS wc wr)
                              case atStart => exact ⟨0, Nat.zero_le _, rfl, rfl, HR1.out, HB1.out⟩
                              case round =>
                                clear HR1 HB1
                                obtain ⟨a, ha, hgk8, rfl, hR, hBw⟩ := hrel
                                by_cases hal : a < n
                                · have hai : (a : Int) < (n : Int) := by omega
                                  obtain ⟨b1, b2, b3, b4⟩ := idx_facts hn hN hal hkl
                                  have d1 : wr.cell? ⟨bR, a * n + k, none⟩ = some (.bool (Tj.Wst (Tj.r0 F T m) k a k)) := by rw [hR.cell, mat_at _ _ hal hkl, Wm_col]
                                  cases hw : Tj.Wst (Tj.r0 F T m) k a k with
                                  | false =>
                                    rw [hw] at d1
                                    have HR2 : Hid (Blk wr bR 4 (mat n (Wm (Tj.r0 F T m) k (a + 1) 0))) := by rw [← Wm_pass _ _ _ hw]; exact hR
                                    have HB2 : Hid (Below bS wc wr) := hBw
                                    clear hR hBw hw
                                    go_wp2
                                    go_roundg (n - (a + 1))
                                    case measure => omega
                                    case rel => exact ⟨a + 1, by omega, by omega, by go_num, HR2.out, HB2.out⟩
                                  | true =>
                                    rw [hw] at d1
                                    have HR2 : Hid (Blk wr bR 4 (mat n (Wm (Tj.r0 F T m) k a 0))) := hR
                                    have HB2 : Hid (Below bS wc wr) := hBw
                                    have HW : Hid (Tj.Wst (Tj.r0 F T m) k a k = true) := hw
                                    clear hR hBw hw
                                    go_wp2
                                    clear d1 b1 b2 b3 b4
                                    go_loopg [25] n (fun gk i wr => ∃ c : Nat, c ≤ n ∧ gk + c = n ∧ i = .int .i64 (c : Int) ∧ Blk wr bR 4 (mat n (Wm (Tj.r0 F T m) k a c)) ∧ Below bS wc wr)
                                    case atStart => exact ⟨0, Nat.zero_le _, rfl, rfl, HR2.out, HB2.out⟩
                                    case round =>
                                      clear HR2 HB2
                                      obtain ⟨c, hc, hgk9, rfl, hR, hBw⟩ := hrel
                                      by_cases hcl : c < n
                                      · have hci : (c : Int) < (n : Int) := by omega
                                        obtain ⟨b1, b2, b3, b4⟩ := idx_facts hn hN hkl hcl
                                        have d1 : wr.cell? ⟨bR, k * n + c, none⟩ = some (.bool (Tj.Wst (Tj.r0 F T m) k k c)) := by rw [hR.cell, mat_at _ _ hkl hcl, Wm_row]
                                        cases hw : Tj.Wst (Tj.r0 F T m) k k c with
                                        | false =>
                                          rw [hw] at d1
                                          have HR3 : Hid (Blk wr bR 4 (mat n (Wm (Tj.r0 F T m) k a (c + 1)))) := by rw [← Wm_no _ _ _ _ hw]; exact hR
                                          have HB3 : Hid (Below bS wc wr) := hBw
                                          clear hR hBw hw
                                          go_wp2
                                          go_roundg (n - (c + 1))
                                          case measure => omega
                                          case rel => exact ⟨c + 1, by omega, by omega, by go_num, HR3.out, HB3.out⟩
                                        | true =>
                                          rw [hw] at d1
                                          obtain ⟨q1, q2, q3, q4⟩ := idx_facts hn hN hal hcl
                                          have d2 : wr.cell? ⟨bR, a * n + c, none⟩ = some (.bool (Wm (Tj.r0 F T m) k a c a c)) := by rw [hR.cell, mat_at _ _ hal hcl]
                                          have f2 : wr.frozen? ⟨bR, a * n + c, none⟩ = false := hR.free _
                                          have HR3 : Hid (Blk (wr.setCell ⟨bR, a * n + c, none⟩ (.bool true)) bR 4 (mat n (Wm (Tj.r0 F T m) k a (c + 1)))) := by rw [← Wm_yes _ _ _ _ HW.out hw, ← mat_set _ _ hal hcl]; exact hR.set _ _
                                          have HB3 : Hid (Below bS wc (wr.setCell ⟨bR, a * n + c, none⟩ (.bool true))) := hBw.setCell (by show bS ≤ bR; omega) _
                                          generalize Wm (Tj.r0 F T m) k a c a c = z at d2
                                          clear hR hBw hw
                                          go_wp2
                                          go_roundg (n - (c + 1))
                                          case measure => omega
                                          case rel => exact ⟨c + 1, by omega, by omega, by go_num, HR3.out, HB3.out⟩
                                      · obtain rfl : n = c := by omega
                                        have hci : ¬ (n : Int) < (n : Int) := by omega
                                        have HR3 : Hid (Blk wr bR 4 (mat n (Wm (Tj.r0 F T m) k (a + 1) 0))) := by rw [← Wm_next]; exact hR
                                        have HB3 : Hid (Below bS wc wr) := hBw
                                        clear hR hBw
                                        go_wp2
                                        go_roundg (n - (a + 1))
                                        case measure => omega
                                        case rel => exact ⟨a + 1, by omega, by omega, by go_num, HR3.out, HB3.out⟩
                                · obtain rfl : n = a := by omega
                                  have hai : ¬ (n : Int) < (n : Int) := by omega
                                  have HR2 : Hid (Blk wr bR 4 (mat n (Tj.Wst (Tj.r0 F T m) (k + 1)))) := by rw [← Wm_end]; exact hR
                                  have HB2 : Hid (Below bS wc wr) := hBw
                                  clear hR hBw
                                  go_wp2
                                  go_roundg (n - (k + 1))
                                  case measure => omega
                                  case rel => exact ⟨k + 1, by omega, by omega, by go_num, HR2.out, HB2.out⟩
                            · obtain rfl : n = k := by omega
                              have hki : ¬ (n : Int) < (n : Int) := by omega
                              have HRz : Hid (Blk wr bR 4 (mat n (Tj.Wst (Tj.r0 F T m) n))) := hR
                              have HBz : Hid (Below w.heap.size w wr) := HB.out.trans (hBw.mono HZ.out)
                              clear hR hBw hgk7 hkl HB HZ
                              go_wp2
                              have HGi : Hid (∀ v, Tj.Good (Tj.csr n m F T) t v ↔ v < n ∧ (v : Int) < t ∧ ∃ u, u < n ∧ Pair n m F T t v u) := good_iff n m F T t HT.out
                              go_loopg [26, 27] (n + 1) (fun gk wv iv wr => ∃ vv : Nat, vv ≤ n ∧ gk + vv = n + 1 ∧ iv = .int .i64 (vv : Int) ∧ ((wv = .int .i32 (-1) ∧ ∀ u, u < vv → ¬ Tj.Good (Tj.csr n m F T) t u) ∨ ∃ x : Nat, wv = .int .i32 (x : Int) ∧ Tj.IsMin (Tj.csr n m F T) t (x : Int)) ∧ Blk wr bR 4 (mat n (Tj.Wst (Tj.r0 F T m) n)) ∧ Below w.heap.size w wr)
                              case atStart => exact ⟨0, Nat.zero_le _, by omega, rfl, Or.inl ⟨rfl, fun u hu => absurd hu (Nat.not_lt_zero _)⟩, HRz.out, HBz.out⟩
                              case round =>
                                clear HRz HBz
                                obtain ⟨vv, hvv, hgk10, rfl, hor, hR, hBw⟩ := hrel
                                have HB2 : Hid (Below w.heap.size w wr) := hBw
                                have HR2 : Hid (Blk wr bR 4 (mat n (Tj.Wst (Tj.r0 F T m) n))) := hR
                                clear hBw hR
                                rcases hor with ⟨rfl, hno⟩ | ⟨x, rfl, hmin⟩
                                · have HNone : Hid (∀ u, u < vv → ¬ Tj.Good (Tj.csr n m F T) t u) := hno
                                  clear hno
                                  by_cases hvl : vv < n
                                  · have hvi : (vv : Int) < (n : Int) := by omega
                                    by_cases htv : (vv : Int) < t
                                    · have htv' : ¬ (vv : Int) ≥ t := by omega
                                      go_wp2
                                      go_loopg [26, 28] n (fun gk wv iv wr => ∃ uu : Nat, uu ≤ n ∧ gk + uu = n ∧ iv = .int .i64 (uu : Int) ∧ wv = .int .i32 (-1) ∧ (∀ u, u < uu → ¬ Pair n m F T t vv u) ∧ Blk wr bR 4 (mat n (Tj.Wst (Tj.r0 F T m) n)) ∧ Below w.heap.size w wr)
                                      case atStart => exact ⟨0, Nat.zero_le _, by omega, rfl, rfl, fun u hu => absurd hu (Nat.not_lt_zero _), HR2.out, HB2.out⟩
                                      case round =>
                                        clear HR2 HB2
                                        obtain ⟨uu, huu, hgk11, rfl, rfl, hpr, hR, hBw⟩ := hrel
                                        have HB3 : Hid (Below w.heap.size w wr) := hBw
                                        have HR3 : Hid (Blk wr bR 4 (mat n (Tj.Wst (Tj.r0 F T m) n))) := hR
                                        have HPr : Hid (∀ u, u < uu → ¬ Pair n m F T t vv u) := hpr
                                        clear hBw hpr
                                        by_cases hul : uu < n
                                        · have hui : (uu : Int) < (n : Int) := by omega
                                          obtain ⟨b1, b2, b3, b4⟩ := idx_facts hn hN hvl hul
                                          obtain ⟨q1, q2, q3, q4⟩ := idx_facts hn hN hul hvl
                                          have d1 : wr.cell? ⟨bR, vv * n + uu, none⟩ = some (.bool (Tj.Wst (Tj.r0 F T m) n vv uu)) := by rw [hR.cell, mat_at _ _ hvl hul]
                                          have d2 : wr.cell? ⟨bR, uu * n + vv, none⟩ = some (.bool (Tj.Wst (Tj.r0 F T m) n uu vv)) := by rw [hR.cell, mat_at _ _ hul hvl]
                                          clear hR
                                          by_cases h1 : uu = vv
                                          · have hb1 : ((uu : Int) != (vv : Int)) = false := by simp; omega
                                            have HNo : Hid (¬ Pair n m F T t vv uu) := fun h => h.1 h1
                                            go_wp2
                                            go_roundg (n - (uu + 1))
                                            case measure => omega
                                            case rel =>
                                              refine ⟨uu + 1, by omega, by omega, by go_num, rfl, fun u hu => ?_, HR3.out, HB3.out⟩
                                              by_cases e : u = uu
                                              · subst e; exact HNo.out
                                              · exact HPr.out u (by omega)
                                          · have hb1 : ((uu : Int) != (vv : Int)) = true := by simp; omega
                                            by_cases h2 : (uu : Int) < t
                                            · cases h3 : Tj.Wst (Tj.r0 F T m) n vv uu with
                                              | false =>
                                                rw [h3] at d1
                                                have HNo : Hid (¬ Pair n m F T t vv uu) := fun h => by have := h.2.2.1; rw [h3] at this; cases this
                                                clear h3
                                                go_wp2
                                                go_roundg (n - (uu + 1))
                                                case measure => omega
                                                case rel =>
                                                  refine ⟨uu + 1, by omega, by omega, by go_num, rfl, fun u hu => ?_, HR3.out, HB3.out⟩
                                                  by_cases e : u = uu
                                                  · subst e; exact HNo.out
                                                  · exact HPr.out u (by omega)
                                              | true =>
                                                rw [h3] at d1
                                                cases h4 : Tj.Wst (Tj.r0 F T m) n uu vv with
                                                | false =>
                                                  rw [h4] at d2
                                                  have HNo : Hid (¬ Pair n m F T t vv uu) := fun h => by have := h.2.2.2; rw [h4] at this; cases this
                                                  clear h3 h4
                                                  go_wp2
                                                  go_roundg (n - (uu + 1))
                                                  case measure => omega
                                                  case rel =>
                                                    refine ⟨uu + 1, by omega, by omega, by go_num, rfl, fun u hu => ?_, HR3.out, HB3.out⟩
                                                    by_cases e : u = uu
                                                    · subst e; exact HNo.out
                                                    · exact HPr.out u (by omega)
                                                | true =>
                                                  rw [h4] at d2
                                                  have HYes : Hid (Tj.IsMin (Tj.csr n m F T) t (vv : Int)) := by
                                                    refine Or.inr ⟨vv, rfl, (HGi.out vv).2 ⟨hvl, htv, uu, hul, h1, h2, h3, h4⟩, fun u hu => ?_⟩
                                                    rcases Nat.lt_or_ge u vv with h | h
                                                    · exact absurd hu (HNone.out u h)
                                                    · exact h
                                                  clear h3 h4
                                                  go_wp2
                                                  go_roundg (n - vv)
                                                  case measure => omega
                                                  case rel => exact ⟨vv + 1, by omega, by omega, by go_num, Or.inr ⟨vv, by go_num, HYes.out⟩, HR3.out, HB3.out⟩
                                            · have HNo : Hid (¬ Pair n m F T t vv uu) := fun h => h2 h.2.1
                                              go_wp2
                                              go_roundg (n - (uu + 1))
                                              case measure => omega
                                              case rel =>
                                                refine ⟨uu + 1, by omega, by omega, by go_num, rfl, fun u hu => ?_, HR3.out, HB3.out⟩
                                                by_cases e : u = uu
                                                · subst e; exact HNo.out
                                                · exact HPr.out u (by omega)
                                        · obtain rfl : n = uu := by omega
                                          have hui : ¬ (n : Int) < (n : Int) := by omega
                                          clear hR
                                          go_wp2
                                          go_roundg (n - vv)
                                          case measure => omega
                                          case rel =>
                                            refine ⟨vv + 1, by omega, by omega, by go_num, Or.inl ⟨rfl, fun u hu hg => ?_⟩, HR3.out, HB3.out⟩
                                            by_cases e : u = vv
                                            · subst e
                                              obtain ⟨_, _, u', hu', hp'⟩ := (HGi.out u).1 hg
                                              exact HPr.out u' hu' hp'
                                            · exact HNone.out u (by omega) hg
                                    · have htv' : (vv : Int) ≥ t := by omega
                                      obtain rfl : got = -1 := Tj.IsMin.unique HGot.out (Or.inl ⟨rfl, fun v hg => by
                                        rcases Nat.lt_or_ge v vv with h | h
                                        · exact HNone.out v h hg
                                        · have := ((HGi.out v).1 hg).2.1
                                          omega⟩)
                                      go_wp2
                                      go_ret
                                      exact ⟨by first | rfl | simp, HB2.out⟩
                                  · have hvi : ¬ (vv : Int) < (n : Int) := by omega
                                    obtain rfl : got = -1 := Tj.IsMin.unique HGot.out (Or.inl ⟨rfl, fun v hg => HNone.out v (by have := ((HGi.out v).1 hg).1; omega) hg⟩)
                                    go_wp2
                                    go_ret
                                    exact ⟨by first | rfl | simp, HB2.out⟩
                                · obtain rfl : got = (x : Int) := Tj.IsMin.unique HGot.out hmin
                                  have hx0 : ¬ (x : Int) < 0 := by omega
                                  by_cases hvl : vv < n
                                  · have hvi : (vv : Int) < (n : Int) := by omega
                                    go_wp2
                                    go_ret
                                    exact ⟨by first | rfl | simp, HB2.out⟩
                                  · have hvi : ¬ (vv : Int) < (n : Int) := by omega
                                    go_wp2
                                    go_ret
                                    exact ⟨by first | rfl | simp, HB2.out⟩
end Go.Proofs.Ybulkcnjc
