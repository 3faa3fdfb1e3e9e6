/-
  zzs4461cmodel: the walk.
-/
import Derived.Test.YbulkcnjcCSer
namespace Go.Proofs.Ybulkcnjc
open Go.RowKit Go.Deep Hp
set_option linter.unusedVariables false
attribute [local go_sem ↓] Go.wp_at_zero Go.wp_at_succ

def Dg (A : Nat → Nat → Bool) (v j : Nat) : Nat → Nat := fun u => Kh.ct (fun x => A x u) v + if u < j ∧ A v u = true then 1 else 0
theorem Dg_yes (A : Nat → Nat → Bool) (v j : Nat) (h : A v j = true) : Tj.upd (Dg A v j) j (Dg A v j j + 1) = Dg A v (j + 1) := by
  funext u
  unfold Tj.upd Dg
  by_cases e : u = j
  · subst e; simp [h]
  · have : u < j + 1 ↔ u < j := by omega
    simp [e, this]
theorem Dg_no (A : Nat → Nat → Bool) (v j : Nat) (h : A v j = false) : Dg A v j = Dg A v (j + 1) := by
  funext u
  unfold Dg
  by_cases e : u = j
  · subst e; simp [h]
  · have : u < j + 1 ↔ u < j := by omega
    simp [this]
theorem Dg_next (A : Nat → Nat → Bool) (m v : Nat) : lints m (Dg A v m) = lints m (Dg A (v + 1) 0) := by
  apply lints_congr
  intro u hu
  unfold Dg
  simp only [Kh.ct]
  simp [hu]
theorem Dg_end (A : Nat → Nat → Bool) (m : Nat) : lints m (Dg A m 0) = lints m (Kh.wt A (fun _ => false) m) := by
  apply lints_congr
  intro u hu
  unfold Dg Kh.wt
  simp
theorem Dg_le (A : Nat → Nat → Bool) (v j u : Nat) : Dg A v j u ≤ v + 1 := by
  unfold Dg
  have := ct_le (p := fun x => A x u) v
  by_cases h : u < j ∧ A v u = true
  · rw [if_pos h]; omega
  · rw [if_neg h]; omega

def Ed (W : Nat → Nat) (A : Nat → Nat → Bool) (v j : Nat) : Nat → Nat := fun u => if u < j ∧ A v u = true then W u - 1 else W u
theorem Ed_at (W : Nat → Nat) (A : Nat → Nat → Bool) (v j : Nat) : Ed W A v j j = W j := by simp [Ed]
theorem Ed_zero (W : Nat → Nat) (A : Nat → Nat → Bool) (v : Nat) : Ed W A v 0 = W := by funext u; simp [Ed]
theorem Ed_yes (W : Nat → Nat) (A : Nat → Nat → Bool) (v j z : Nat) (h : A v j = true) (hz : W j = z + 1) : Tj.upd (Ed W A v j) j z = Ed W A v (j + 1) := by
  funext u
  unfold Tj.upd Ed
  by_cases e : u = j
  · subst e; simp [h, hz]
  · have : u < j + 1 ↔ u < j := by omega
    simp [e, this]
theorem Ed_no (W : Nat → Nat) (A : Nat → Nat → Bool) (v j : Nat) (h : A v j = false) : Ed W A v j = Ed W A v (j + 1) := by
  funext u
  unfold Ed
  by_cases e : u = j
  · subst e; simp [h]
  · have : u < j + 1 ↔ u < j := by omega
    simp [this]
theorem Ed_end (A : Nat → Nat → Bool) (P : Nat → Bool) (m v : Nat) (hv : v < m) (hP : P v = false) : lints m (Ed (Kh.wt A P m) A v m) = lints m (Kh.wt A (Tj.upd P v true) m) := by
  apply lints_congr
  intro u hu
  have := Kh.wt_step A P m v u hv hP
  unfold Ed
  by_cases h : A v u = true
  · rw [if_pos ⟨hu, h⟩]
    rw [if_pos h] at this
    omega
  · rw [if_neg (fun e => h e.2)]
    rw [if_neg h] at this
    omega

structure MM (bD bP base : Nat) (w0 : World) (m : Nat) (W : Nat → Nat) (P : Nat → Bool) (ov : Value) (os : List Value) (w : World) : Prop where
  bel : Below bD w0 w
  db : Blk w bD 3 (lints m W)
  pb : Blk w bP 4 (bools m P)
  od : w.ownsRow base 3 1 ov os.length os
  h1 : bD < bP
  h2 : bP < base
  sz : base ≤ w.heap.size

section
variable {bD bP base : Nat} {w0 : World} {m : Nat} {W : Nat → Nat} {P : Nat → Bool} {ov : Value} {os : List Value} {w w' : World}
theorem MM.setD (h : MM bD bP base w0 m W P ov os w) (i x : Nat) : MM bD bP base w0 m (Tj.upd W i x) P ov os (w.setCell ⟨bD, i, none⟩ (.int .i64 (x : Int))) := by
  have a1 := h.h1
  have a2 := h.h2
  refine ⟨h.bel.setCell (Nat.le_refl _) _, ?_, h.pb.other (by show bP ≠ bD; omega) _, ownsRow_setCell_below h.od (by show bD < base; omega) _, a1, a2, by rw [World.size_setCell]; exact h.sz⟩
  have := h.db.set i (.int .i64 (x : Int))
  rwa [lints_set] at this
theorem MM.setP (h : MM bD bP base w0 m W P ov os w) (i : Nat) : MM bD bP base w0 m W (Tj.upd P i true) ov os (w.setCell ⟨bP, i, none⟩ (.bool true)) := by
  have a1 := h.h1
  have a2 := h.h2
  refine ⟨h.bel.setCell (by show bD ≤ bP; omega) _, h.db.other (by show bD ≠ bP; omega) _, ?_, ownsRow_setCell_below h.od (by show bP < base; omega) _, a1, a2, by rw [World.size_setCell]; exact h.sz⟩
  have := h.pb.set i (.bool true)
  rwa [bools_set] at this
theorem MM.push (h : MM bD bP base w0 m W P ov os w) {o : Obj} {w4 : World} {g cap : Nat} {v : Value} (hg : (w.alloc o).grownBy w4 ov.ownBlock) (hown : w4.ownsRow base 3 1 (.slice (some ⟨g, 0, none⟩) (os.length + 1) cap) (os.length + 1) (os ++ [v])) :
    MM bD bP base w0 m W P (.slice (some ⟨g, 0, none⟩) (os.length + 1) cap) (os ++ [v]) w4 := by
  have a1 := h.h1
  have a2 := h.h2
  have a3 := h.sz
  have a4 := hg.size
  rw [World.size_alloc] at a4
  have hn : ∀ b, b < base → some b ≠ ov.ownBlock := fun b hb' e => by have := (h.od.lt b e.symm).1; omega
  refine ⟨(h.bel.alloc (by omega) o).grown hg (by simp; omega) (fun x hx => by have := (h.od.lt x hx).1; omega), (h.db.alloc o).grown hg (hn bD (by omega)), (h.pb.alloc o).grown hg (hn bP (by omega)), by rw [List.length_append]; exact hown, a1, a2, by omega⟩
end

theorem idx512 {n a x N : Nat} (hn : n ≤ 512) (hN : n * n = N) (ha : a < n) (hx : x < n) :
    (0 : Int) ≤ (a : Int) * (n : Int) ∧ (a : Int) * (n : Int) ≤ 262144 ∧ (a : Int) * (n : Int) + (x : Int) < (N : Int) ∧ ((a : Int) * (n : Int) + (x : Int)).toNat = a * n + x := by
  have h1 := cell_lt ha hx
  have h2 : a * n ≤ 512 * 512 := Nat.mul_le_mul (by omega) hn
  rw [hN] at h1
  rw [← Int.natCast_mul]
  generalize a * n = p at h1 h2
  omega

set_option maxRecDepth 100000 in
set_option maxHeartbeats 6400000 in
theorem model_any (A : Nat → Nat → Bool) (m : Nat) (U : Nat → Int) (bU bA : Nat) (pU : Option Addr) (cU N : Nat) (w : World) (hm : m ≤ 512) (hN : m * m = N) (hA : Blk w bA 4 (mat m A)) (hU : ∀ i, i < m → pU = some ⟨bU, 0, none⟩ ∧ w.cell? ⟨bU, i, none⟩ = some (.int .i64 (U i))) (hbU : 0 < m → bU < w.heap.size) :
    Calls Yba.prog 7 #[.slice pU m cU, .slice (some ⟨bA, 0, none⟩) N N] w fun e w' => SerRes A m U w e w' := by
  have HA : Hid (Blk w bA 4 (mat m A)) := hA
  have HU : Hid (∀ i, i < m → pU = some ⟨bU, 0, none⟩ ∧ w.cell? ⟨bU, i, none⟩ = some (.int .i64 (U i))) := hU
  have HBU : Hid (0 < m → bU < w.heap.size) := hbU
  have HAlt : Hid (bA < w.heap.size) := hA.lt
  clear hA hU hbU
  have hmk := fun W => run_make_row' (P := Yba.prog) 26 3 (.int .i64 0) 8 Yba.underlying26 info3 rfl .i64 .i64 m (by omega) (by omega) W
  go_enter Yba.func7, Yba.ntmps7
  go_upto_region 3 with fail
  clear hmk
  obtain ⟨w1, hw1⟩ : ∃ z, z = w.alloc (.cells (madeCells #[.int .i64 0] m) 3) := ⟨_, rfl⟩
  have HW1 : Hid (Blk w1 w.heap.size 3 (lints m (Dg A 0 0))) := by
    rw [show Dg A 0 0 = fun _ => 0 from by funext u; simp [Dg, Kh.ct], ← made_lints, hw1]; exact Blk.new _ _ _
  have HB1 : Hid (Below w.heap.size w w1) := by rw [hw1]; exact (Below.refl _ _).alloc (Nat.le_refl _) _
  rw [← hw1]
  clear hw1
  obtain ⟨bD, hbD⟩ : ∃ z, z = w.heap.size := ⟨_, rfl⟩
  rw [← hbD] at HW1 HB1 HBU HAlt ⊢
  have HbD : Hid (bD = w.heap.size) := hbD
  clear hbD
  go_wp2
  go_loopg [8] m (fun gk x wr => ∃ v : Nat, v ≤ m ∧ gk + v = m ∧ x = .int .i64 (v : Int) ∧ Blk wr bD 3 (lints m (Dg A v 0)) ∧ Below bD w wr)
  case atStart => exact ⟨0, Nat.zero_le _, rfl, rfl, HW1.out, HB1.out⟩
  case round =>
    clear HW1 HB1
    obtain ⟨v, hv, hgk, rfl, hD, hBw⟩ := hrel
    have HD : Hid (Blk wr bD 3 (lints m (Dg A v 0))) := hD
    have HBw : Hid (Below bD w wr) := hBw
    have hlt := hD.lt
    clear hD hBw
    by_cases hvl : v < m
    · have hvi : (v : Int) < (m : Int) := by omega
      go_wp2
      go_loopg [9] m (fun gk x wr => ∃ j : Nat, j ≤ m ∧ gk + j = m ∧ x = .int .i64 (j : Int) ∧ Blk wr bD 3 (lints m (Dg A v j)) ∧ Below bD w wr)
      case atStart => exact ⟨0, Nat.zero_le _, rfl, rfl, HD.out, HBw.out⟩
      case round =>
        clear HD HBw
        obtain ⟨j, hj, hgk2, rfl, hD, hBw⟩ := hrel
        by_cases hjl : j < m
        · have hji : (j : Int) < (m : Int) := by omega
          obtain ⟨b1, b2, b3, b4⟩ := idx512 hm hN hvl hjl
          have d1 : wr.cell? ⟨bA, v * m + j, none⟩ = some (.bool (A v j)) := by rw [hBw.cell HAlt.out, HA.out.cell, mat_at _ _ hvl hjl]
          cases hAv : A v j with
          | true =>
            rw [hAv] at d1
            have d2 : wr.cell? ⟨bD, j, none⟩ = some (.int .i64 (Dg A v j j : Int)) := by rw [hD.cell, lints_at _ _ _ hjl]
            have f2 : wr.frozen? ⟨bD, j, none⟩ = false := hD.free _
            have hz : Dg A v j j ≤ 1024 := by have := Dg_le A v j j; omega
            have hD' : Blk (wr.setCell ⟨bD, j, none⟩ (.int .i64 ((Dg A v j j + 1 : Nat) : Int))) bD 3 (lints m (Dg A v (j + 1))) := by rw [← Dg_yes A v j hAv, ← lints_set]; exact hD.set _ _
            rw [Int.natCast_add, Int.natCast_one] at hD'
            have HD' : Hid (Blk (wr.setCell ⟨bD, j, none⟩ (.int .i64 ((Dg A v j j : Int) + 1))) bD 3 (lints m (Dg A v (j + 1)))) := hD'
            have HB' : Hid (Below bD w (wr.setCell ⟨bD, j, none⟩ (.int .i64 ((Dg A v j j : Int) + 1)))) := hBw.setCell (Nat.le_refl _) _
            generalize Dg A v j j = z at d2 hz HD' HB'
            clear hD hBw hD' hAv
            go_wp2
            go_roundg (gk - 1)
            case measure => omega
            case rel => exact ⟨j + 1, by omega, by omega, by go_num, HD'.out, HB'.out⟩
          | false =>
            rw [hAv] at d1
            have HD' : Hid (Blk wr bD 3 (lints m (Dg A v (j + 1)))) := by rw [← Dg_no A v j hAv]; exact hD
            have HB' : Hid (Below bD w wr) := hBw
            clear hD hBw hAv
            go_wp2
            go_roundg (gk - 1)
            case measure => omega
            case rel => exact ⟨j + 1, by omega, by omega, by go_num, HD'.out, HB'.out⟩
        · obtain rfl : m = j := by omega
          have hji : ¬ (m : Int) < (m : Int) := by omega
          have HD' : Hid (Blk wr bD 3 (lints m (Dg A (v + 1) 0))) := by rw [← Dg_next A m v]; exact hD
          have HB' : Hid (Below bD w wr) := hBw
          clear hD hBw
          go_wp2
          go_roundg (m - (v + 1))
          case measure => omega
          case rel => exact ⟨v + 1, by omega, by omega, by go_num, HD'.out, HB'.out⟩
    · obtain rfl : m = v := by omega
      have hvi : ¬ (m : Int) < (m : Int) := by omega
      have hmb := fun W => run_make_row' (P := Yba.prog) 30 4 (.bool false) 1 Yba.underlying30 info4 rfl .i64 .i64 m (by omega) (by omega) W
      have hmo := fun W => make_int0 m (by omega) W
      go_upto_region 13 with fail
      clear hmb hmo
      have hMM : MM bD wr.heap.size (wr.heap.size + 1) w m (Kh.wt A (fun _ => false) m) (fun _ => false) (.slice (some ⟨wr.heap.size + 1, 0, none⟩) 0 m) (ordV U []) ((wr.alloc (.cells (madeCells #[.bool false] m) 4)).alloc (.cells (madeCells #[.int .i64 0] m) 3)) := by
        refine ⟨(HBw.out.alloc (by omega) _).alloc (by simp; omega) _, ?_, ?_, ?_, hlt, by omega, by simp⟩
        · rw [← Dg_end A m]; exact (HD.out.alloc _).alloc _
        · rw [← made_bools]; exact (Blk.new _ _ _).alloc _
        · have := owns_made0 (wr.alloc (.cells (madeCells #[.bool false] m) 4)) (wr.heap.size + 1) m (by simp) (by omega)
          rw [World.size_alloc] at this
          exact this
      have HMM : Hid (MM bD wr.heap.size (wr.heap.size + 1) w m (Kh.wt A (fun _ => false) m) (fun _ => false) (.slice (some ⟨wr.heap.size + 1, 0, none⟩) 0 m) (ordV U []) ((wr.alloc (.cells (madeCells #[.bool false] m) 4)).alloc (.cells (madeCells #[.int .i64 0] m) 3))) := hMM
      clear hMM HD HBw hlt hgk hvl hvi
      generalize (wr.alloc (.cells (madeCells #[.bool false] m) 4)).alloc (.cells (madeCells #[.int .i64 0] m) 3) = w3 at HMM ⊢
      generalize wr.heap.size = bP at HMM ⊢
      go_wp2
      go_loopg [11, 12] m (fun gk x y wr => ∃ (ks : List Nat) (P : Nat → Bool) (go co : Nat), gk + ks.length = m ∧ x = .slice (some ⟨go, 0, none⟩) ks.length co ∧ y = .int .i64 (ks.length : Int) ∧ Kh.At A m ks P ∧ MM bD bP (bP + 1) w m (Kh.wt A P m) P (.slice (some ⟨go, 0, none⟩) ks.length co) (ordV U ks) wr)
      case atStart => exact ⟨[], _, _, m, rfl, rfl, rfl, Kh.At.start A m, HMM.out⟩
      case round =>
        clear HMM
        obtain ⟨ks, P, go, co, hgk, rfl, rfl, hAt, hMM⟩ := hrel
        have HMM : Hid (MM bD bP (bP + 1) w m (Kh.wt A P m) P (.slice (some ⟨go, 0, none⟩) ks.length co) (ordV U ks) wr) := hMM
        have HAt : Hid (Kh.At A m ks P) := hAt
        clear hMM hAt
        by_cases hkl : ks.length < m
        · have hki : (ks.length : Int) < (m : Int) := by omega
          go_wp2
          go_loopg [13, 14] m (fun gk p x wr' => ∃ i : Nat, i ≤ m ∧ gk + i = m ∧ p = .int .i64 (-1) ∧ x = .int .i64 (i : Int) ∧ (∀ j, j < i → Kh.rdy A P m j = false) ∧ wr' = wr)
          case atStart => exact ⟨0, Nat.zero_le _, rfl, rfl, rfl, fun j hj => absurd hj (Nat.not_lt_zero _), rfl⟩
          case round =>
            obtain ⟨i, hi, hgk2, rfl, rfl, hlow, hwr⟩ := hrel
            subst hwr
            have HLow : Hid (∀ j, j < i → Kh.rdy A P m j = false) := hlow
            clear hlow
            by_cases hil : i < m
            · have hii : (i : Int) < (m : Int) := by omega
              have d1 : wr.cell? ⟨bP, i, none⟩ = some (.bool (P i)) := by rw [HMM.out.pb.cell, bools_at _ _ _ hil]
              have d2 : wr.cell? ⟨bD, i, none⟩ = some (.int .i64 (Kh.wt A P m i : Int)) := by rw [HMM.out.db.cell, lints_at _ _ _ hil]
              cases hPi : P i with
              | true =>
                rw [hPi] at d1
                have HLow' : Hid (∀ j, j < i + 1 → Kh.rdy A P m j = false) := fun j hj => by
                  by_cases e : j = i
                  · subst e; simp [Kh.rdy, hPi]
                  · exact HLow.out j (by omega)
                clear d2 hPi HLow
                go_wp2
                go_roundg (gk - 1)
                case measure => omega
                case rel => exact ⟨i + 1, by omega, by omega, rfl, by go_num, HLow'.out, rfl⟩
              | false =>
                rw [hPi] at d1
                by_cases hw0 : Kh.wt A P m i = 0
                · rw [hw0] at d2
                  have hrd : Kh.rdy A P m i = true := (Kh.rdy_iff A P m i).2 ⟨hil, hPi, hw0⟩
                  have HFst : Hid (Kh.fst (Kh.rdy A P m) m = some i) := Kh.fst_eq hil hrd HLow.out
                  have HAt' : Hid (Kh.At A m (ks ++ [i]) (Tj.upd P i true)) := HAt.out.step HFst.out
                  have f1 : wr.frozen? ⟨bP, i, none⟩ = false := HMM.out.pb.free _
                  have HPi : Hid (P i = false) := hPi
                  have HM2 : Hid _ := HMM.out.setP i
                  have hs2 := HM2.out.sz
                  obtain ⟨rfl, hcu⟩ := HU.out i hil
                  have hcu2 : (wr.setCell ⟨bP, i, none⟩ (.bool true)).cell? ⟨bU, i, none⟩ = some (.int .i64 (U i)) := (HM2.out.bel.cell (HBU.out (by omega))).trans hcu
                  have od2 : Hid ((wr.setCell ⟨bP, i, none⟩ (.bool true)).ownsRow (bP + 1) 3 1 (.slice (some ⟨go, 0, none⟩) ks.length co) ks.length (ordV U ks)) := by
                    have := HM2.out.od
                    rw [ordV_length] at this
                    exact this
                  obtain ⟨i3, hi3, hz30, hz31, hz32⟩ := info_parts info3
                  clear hcu hPi hrd HLow HFst
                  have hbUP : ¬ bU = bP := by have := HBU.out (by omega); have := HM2.out.h1; omega
                  go_upto_region 25 with fail
                  generalize wr.setCell ⟨bP, i, none⟩ (.bool true) = w2 at HM2 od2 hcu2 hs2 ⊢
                  clear d1 d2 f1
                  go_wp2_with (at_builtin; refine wpList_append_lies _ rfl _ _ 26 rfl (bP + 1) 3 i3 (.int .i64 0) 1 8 Yba.underlying26 hi3 hz30 hz31 hz32 rfl (by decide) (.slice (some ⟨go, 0, none⟩) ks.length co) ks.length (ordV U ks) rfl (od2.out.alloc _) ⟨w2.heap.size, 0, none⟩ 1 1 [.int .i64 (U i)] rfl rfl (cell_one_new _ _ _) (by intro u hu; simp at hu; subst hu; rfl) (by decide) (by unfold maxLen; omega) (by omega) (by simp; omega) _ rfl ?_; intro gq capq w5 hown5 hgrow5 hat5 _; have HM5 : Hid _ := HM2.out.push (by exact hgrow5) (by rw [ordV_length]; exact hown5); clear hown5 hgrow5 hat5)
                  have HM6 : Hid (MM bD bP (bP + 1) w m (Ed (Kh.wt A P m) A i 0) (Tj.upd P i true) (.slice (some ⟨gq, 0, none⟩) (ks.length + 1) capq) (ordV U (ks ++ [i])) w5) := by
                    have := HM5.out
                    rw [ordV_snoc, ordV_length] at this
                    rw [Ed_zero]
                    exact this
                  clear HM5 HM2 od2 hcu2 hs2 hi3 hz30 hz31 hz32
                  go_loopg [15] m (fun gk x wr => ∃ j : Nat, j ≤ m ∧ gk + j = m ∧ x = .int .i64 (j : Int) ∧ MM bD bP (bP + 1) w m (Ed (Kh.wt A P m) A i j) (Tj.upd P i true) (.slice (some ⟨gq, 0, none⟩) (ks.length + 1) capq) (ordV U (ks ++ [i])) wr)
                  case atStart => exact ⟨0, Nat.zero_le _, rfl, rfl, HM6.out⟩
                  case round =>
                    clear HM6
                    obtain ⟨j, hj, hgk3, rfl, hM6⟩ := hrel
                    have HM6 : Hid (MM bD bP (bP + 1) w m (Ed (Kh.wt A P m) A i j) (Tj.upd P i true) (.slice (some ⟨gq, 0, none⟩) (ks.length + 1) capq) (ordV U (ks ++ [i])) wr) := hM6
                    by_cases hjl : j < m
                    · have hji : (j : Int) < (m : Int) := by omega
                      obtain ⟨b1, b2, b3, b4⟩ := idx512 hm hN hil hjl
                      have d1 : wr.cell? ⟨bA, i * m + j, none⟩ = some (.bool (A i j)) := by rw [hM6.bel.cell HAlt.out, HA.out.cell, mat_at _ _ hil hjl]
                      cases hAv : A i j with
                      | true =>
                        rw [hAv] at d1
                        have hst := Kh.wt_step A P m i j hil HPi.out
                        rw [if_pos hAv] at hst
                        obtain ⟨z, hz⟩ : ∃ z, Kh.wt A P m j = z + 1 := ⟨_, hst⟩
                        have hzb : z ≤ 512 := by
                          have h2 := Kh.wt_le A P j m
                          unfold Kh.wt at hz
                          omega
                        have d2 : wr.cell? ⟨bD, j, none⟩ = some (.int .i64 ((z : Int) + 1)) := by rw [hM6.db.cell, lints_at _ _ _ hjl, Ed_at, hz]; rfl
                        have f2 : wr.frozen? ⟨bD, j, none⟩ = false := hM6.db.free _
                        have HM7 : Hid (MM bD bP (bP + 1) w m (Ed (Kh.wt A P m) A i (j + 1)) (Tj.upd P i true) (.slice (some ⟨gq, 0, none⟩) (ks.length + 1) capq) (ordV U (ks ++ [i])) (wr.setCell ⟨bD, j, none⟩ (.int .i64 (z : Int)))) := by
                          rw [← Ed_yes _ A i j z hAv hz]
                          exact hM6.setD j z
                        clear hM6 HM6 hst hz hAv
                        go_wp2
                        go_roundg (gk - 1)
                        case measure => omega
                        case rel => exact ⟨j + 1, by omega, by omega, by go_num, HM7.out⟩
                      | false =>
                        rw [hAv] at d1
                        have HM7 : Hid (MM bD bP (bP + 1) w m (Ed (Kh.wt A P m) A i (j + 1)) (Tj.upd P i true) (.slice (some ⟨gq, 0, none⟩) (ks.length + 1) capq) (ordV U (ks ++ [i])) wr) := by
                          rw [← Ed_no _ A i j hAv]
                          exact hM6
                        clear hM6 HM6 hAv
                        go_wp2
                        go_roundg (gk - 1)
                        case measure => omega
                        case rel => exact ⟨j + 1, by omega, by omega, by go_num, HM7.out⟩
                    · obtain rfl : m = j := by omega
                      have hji : ¬ (m : Int) < (m : Int) := by omega
                      have HM7 : Hid (MM bD bP (bP + 1) w m (Kh.wt A (Tj.upd P i true) m) (Tj.upd P i true) (.slice (some ⟨gq, 0, none⟩) (ks.length + 1) capq) (ordV U (ks ++ [i])) wr) :=
                        ⟨hM6.bel, by rw [← Ed_end A P m i hil HPi.out]; exact hM6.db, hM6.pb, hM6.od, hM6.h1, hM6.h2, hM6.sz⟩
                      clear hM6 HM6
                      go_wp2
                      go_roundg (m - (ks.length + 1))
                      case measure => omega
                      case rel => exact ⟨ks ++ [i], _, gq, capq, by simp; omega, by simp, by simp, HAt'.out, by simpa using HM7.out⟩
                · have hwi : ((Kh.wt A P m i : Int) == 0) = false := by simpa using hw0
                  have HLow' : Hid (∀ j, j < i + 1 → Kh.rdy A P m j = false) := fun j hj => by
                    by_cases e : j = i
                    · subst e; simp [Kh.rdy, hw0]
                    · exact HLow.out j (by omega)
                  generalize Kh.wt A P m i = z at d2 hwi
                  clear hPi HLow
                  go_wp2
                  go_roundg (gk - 1)
                  case measure => omega
                  case rel => exact ⟨i + 1, by omega, by omega, rfl, by go_num, HLow'.out, rfl⟩
            · obtain rfl : m = i := by omega
              have hii : ¬ (m : Int) < (m : Int) := by omega
              have hord : Kh.ord A m = ks := HAt.out.stop (Kh.fst_no HLow.out)
              have HO : Hid (Kh.ord A m = ks) := hord
              clear hord
              go_wp2
              go_ret2
              have hord := HO.out
              exact ⟨by rw [← HbD.out]; exact HMM.out.bel, fun h => by rw [hord] at h; omega, fun _ => rfl⟩
        · have hki : ¬ (ks.length : Int) < (m : Int) := by omega
          have hfin : ks.length = m := by omega
          have hord : Kh.ord A m = ks := HAt.out.full hfin
          have HO : Hid (Kh.ord A m = ks) := hord
          clear hord
          go_wp2
          go_ret2
          have hord := HO.out
          refine ⟨by rw [← HbD.out]; exact HMM.out.bel, fun _ => ⟨go, co, by first | rfl | (rw [hfin]; rfl), fun j hj => ?_⟩, fun h => absurd (by rw [hord]; exact hfin) h⟩
          have hod := HMM.out.od
          rw [ordV_length] at hod
          rw [hod.cellAt j (by omega), hord]
          simp [ordV, hfin, hj]

end Go.Proofs.Ybulkcnjc
