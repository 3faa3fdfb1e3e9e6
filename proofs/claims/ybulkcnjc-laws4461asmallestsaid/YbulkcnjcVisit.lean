/-
  components' closure 'visit', by its contract.
-/
import Derived.Test.YbulkcnjcBase
import Derived.Deep.RegionHeld3
import Derived.Deep.RegionWith
import Derived.Deep.AppendLies
import Derived.Deep.DrawnRows
import Derived.Deep.RegionLaw
namespace Go.Proofs.Ybulkcnjc
open Go.RowKit
set_option linter.unusedVariables false

attribute [local go_sem ↓] Go.wp_at_zero Go.wp_at_succ

theorem m_first (x : Value) (w : World) : (method 240 29 x "example.com/serialis/serialis.firstArc").run Yba.prog w = .ok (83, x) w := by kernel_rfl
theorem m_arc (x : Value) (w : World) : (method 240 29 x "example.com/serialis/serialis.arc").run Yba.prog w = .ok (82, x) w := by kernel_rfl
theorem m_cnt (x : Value) (w : World) : (method 240 29 x "example.com/serialis/serialis.nodeCount").run Yba.prog w = .ok (84, x) w := by kernel_rfl
theorem n_arc (x : Value) (w : World) : (nilAhead 240 29 x "example.com/serialis/serialis.arc").run Yba.prog w = .ok (some false) w := by kernel_rfl
theorem info66 : (Yba.prog.info? 66).map (fun i => (i.zero, i.size, i.bytes)) = some (some (.agg #[.int .i32 0, .int .i64 0]), 2, 16) := by kernel_rfl
/-- what 'visit' has captured -/
def visArgs (k : Bk) (v : Nat) : Array Value := #[.int .i32 (v : Int), .pointer (some ⟨k.bR, 0, none⟩), .pointer (some ⟨k.bO, 0, none⟩), .pointer (some ⟨k.bL, 0, none⟩), .pointer (some ⟨k.bP, 0, none⟩), .pointer (some ⟨k.bG, 0, none⟩), .pointer (some ⟨k.bQ, 0, none⟩), .pointer (some ⟨k.bN, 0, none⟩)]

/-- behind the append onto the path -/
theorem arm_facts {g : Tj.G} {k : Bk} {s : Tj.S} {w2 w3 w4 : World} {o : Obj} {pv : Value} (M : Mem g k s w2) (ok : k.Ok) (hP : Blk w2 k.bP 62 #[pv]) (hpr : w2.ownsRow k.base 66 2 pv s.path.length (frames s.path))
    (hb3 : Below w2.heap.size w2 w3) (hg : (w3.alloc o).grownBy w4 pv.ownBlock) :
    w4.cell? ⟨k.bP, 0, none⟩ = some pv ∧ w4.frozen? ⟨k.bP, 0, none⟩ = false ∧ w4.cell? ⟨k.bG, 0, none⟩ = some (.iface 29 (gv g.n k.m k.bS k.bX)) := by
  obtain ⟨o1, o2, o3, o4, o5, o6, o7, o8, o9, o10, o11, o12⟩ := ok
  have hrow : ∀ b, b < k.base → some b ≠ pv.ownBlock := fun b hb e => by have := (hpr.lt b e.symm).1; omega
  have h1 := (((hP.below hb3 hP.lt).alloc o).grown hg (hrow _ (by omega)))
  have h2 := (((M.gBox.below hb3 M.gBox.lt).alloc o).grown hg (hrow _ (by omega)))
  exact ⟨h1.one, h1.free 0, h2.one⟩

theorem frames_snoc (p : List (Nat × Nat)) (v c : Nat) : frames p ++ [.int .i32 (v : Int), .int .i64 (c : Int)] = frames (p ++ [(v, c)]) := by simp [frames]
/-- what the append onto the path and the store into its box leave -/
theorem push_path {g : Tj.G} {k : Bk} {s : Tj.S} {w2 w3 w4 : World} {o : Obj} {pv pv' : Value} {v c : Nat} (M : Mem g k s w2) (ok : k.Ok) (hP : Blk w2 k.bP 62 #[pv]) (hpr : w2.ownsRow k.base 66 2 pv s.path.length (frames s.path))
    (hb3 : Below w2.heap.size w2 w3) (hg : (w3.alloc o).grownBy w4 pv.ownBlock) (hown : w4.ownsRow k.base 66 2 pv' (s.path.length + 1) (frames s.path ++ [.int .i32 (v : Int), .int .i64 (c : Int)])) :
    Mem g k { s with path := s.path ++ [(v, c)] } (w4.setCell ⟨k.bP, 0, none⟩ pv') ∧ Below k.bG w2 (w4.setCell ⟨k.bP, 0, none⟩ pv') := by
  have M3 := (M.below ok hb3).below ok ((Below.refl _ _).alloc (Nat.le_refl _) o)
  have hP3 := (hP.below hb3 hP.lt).alloc o
  have hpr3 := (owns_below hpr hb3).alloc o
  rw [frames_snoc] at hown
  have hlen : s.path.length + 1 = (s.path ++ [(v, c)]).length := by simp
  rw [hlen] at hown
  refine ⟨M3.setP ok hP3 hpr3 hg hown, ?_⟩
  obtain ⟨o1, o2, o3, o4, o5, o6, o7, o8, o9, o10, o11, o12⟩ := ok
  have hGs := M.gBox.lt
  have hs3 := hb3.size
  refine Below.setCell ?_ (by show k.bG ≤ k.bP; omega) _
  exact (((hb3.mono (by omega)).alloc (by omega) o).grown hg (by simp; omega) (fun x hx => by have := (hpr.lt x hx).1; omega))

theorem push_open {g : Tj.G} {k : Bk} {s : Tj.S} {w2 w4 : World} {o : Obj} {qv qv' : Value} {v : Nat} (M : Mem g k s w2) (ok : k.Ok) (hQ : Blk w2 k.bQ 23 #[qv]) (hqr : w2.ownsRow k.base 21 1 qv s.opn.length (nodes s.opn))
    (hg : (w2.alloc o).grownBy w4 qv.ownBlock) (hown : w4.ownsRow k.base 21 1 qv' (s.opn.length + 1) (nodes s.opn ++ [.int .i32 (v : Int)])) :
    Mem g k { s with opn := s.opn ++ [v] } (w4.setCell ⟨k.bQ, 0, none⟩ qv') ∧ Below k.bG w2 (w4.setCell ⟨k.bQ, 0, none⟩ qv') ∧ w4.cell? ⟨k.bQ, 0, none⟩ = some qv ∧ w4.frozen? ⟨k.bQ, 0, none⟩ = false ∧ Blk w4 k.bN 30 #[.slice (some ⟨k.aN, 0, none⟩) g.n g.n] ∧ Blk w4 k.aN 4 (bools g.n s.on) := by
  have M3 := M.below ok ((Below.refl _ _).alloc (Nat.le_refl _) o)
  have hQ3 := hQ.alloc o
  have hqr3 := hqr.alloc o
  rw [nodes_snoc] at hown
  have hlen : s.opn.length + 1 = (s.opn ++ [v]).length := by simp
  rw [hlen] at hown
  obtain ⟨o1, o2, o3, o4, o5, o6, o7, o8, o9, o10, o11, o12⟩ := id ok
  have hGs := M.gBox.lt
  have hB4 := hQ3.grown hg (fun e => by have := (hqr.lt k.bQ e.symm).1; omega)
  have hrow : ∀ b, b < k.base → some b ≠ qv.ownBlock := fun b hb e => by have := (hqr.lt b e.symm).1; omega
  refine ⟨M3.setQ ok hQ3 hqr3 hg hown, ?_, hB4.one, hB4.free 0, M3.nBox.grown hg (hrow _ (by omega)), M3.nArr.grown hg (hrow _ (by omega))⟩
  refine Below.setCell ?_ (by show k.bG ≤ k.bQ; omega) _
  exact (((Below.refl _ w2).alloc (by omega) o).grown hg (by simp; omega) (fun x hx => by have := (hqr.lt x hx).1; omega))

set_option maxRecDepth 100000 in
set_option maxHeartbeats 1600000 in
theorem visit_any (g : Tj.G) (k : Bk) (s : Tj.S) (v : Nat) (w : World) (ok : k.Ok) (hn : g.n ≤ 48) (hv : v < g.n) (hc : s.cnt ≤ 48) (hpl : s.path.length ≤ 48) (hql : s.opn.length ≤ 48) (h : Mem g k s w) :
    Calls Yba.prog 19 (visArgs k v) w fun e w' => e = .returned (.tuple #[]) ∧ Mem g k (s.visit g v) w' ∧ Below k.bG w w' := by
  have cR := h.rBox.one
  have fR := h.rBox.free 0
  have M1 := h.setR ok (s.cnt + 1)
  have hcast : ((s.cnt + 1 : Nat) : Int) = (s.cnt : Int) + 1 := by omega
  rw [hcast] at M1
  have B1 : Below k.bG w (w.setCell ⟨k.bR, 0, none⟩ (.int .i32 ((s.cnt : Int) + 1))) := (Below.refl _ _).setCell (by show k.bG ≤ k.bR; have := ok.gO; have := ok.oO; have := ok.oL; have := ok.lL; have := ok.lN; have := ok.nN; have := ok.nP; have := ok.pQ; have := ok.qR; omega) _
  have HM1 : Hid _ := M1
  have HB1 : Hid _ := B1
  clear M1 B1 hcast
  unfold visArgs
  go_enter Yba.func19, Yba.ntmps19
  go_wp2
  generalize w.setCell ⟨k.bR, 0, none⟩ (.int .i32 ((s.cnt : Int) + 1)) = w1 at HM1 HB1 ⊢
  have M1 := HM1.out
  have cR1 := M1.rBox.one
  have cO1 := M1.oBox.one
  have cL1 := M1.lBox.one
  have cOv : w1.cell? ⟨k.aO, v, none⟩ = some (.int .i32 (s.ord v : Int)) := by rw [M1.oArr.cell, ints_at _ _ _ hv]
  have cLv : w1.cell? ⟨k.aL, v, none⟩ = some (.int .i32 (s.low v : Int)) := by rw [M1.lArr.cell, ints_at _ _ _ hv]
  have fO := M1.oArr.free v
  have fL := M1.lArr.free v
  have hcast : ((s.cnt + 1 : Nat) : Int) = (s.cnt : Int) + 1 := by omega
  simp only [hcast] at cR1
  have hOL : ¬ k.aO = k.aL := by have := ok.oO; have := ok.oL; omega
  have hLO : ¬ k.aL = k.aO := by omega
  have hOO : ¬ k.aO = k.bO := by have := ok.oO; omega
  have hOR : ¬ k.aO = k.bR := by have := ok.oO; have := ok.oL; have := ok.lL; have := ok.lN; have := ok.nN; have := ok.nP; have := ok.pQ; have := ok.qR; omega
  have hLR : ¬ k.aL = k.bR := by have := ok.lL; have := ok.lN; have := ok.nN; have := ok.nP; have := ok.pQ; have := ok.qR; omega
  have hLL : ¬ k.aL = k.bL := by have := ok.lL; omega
  have hLbO : ¬ k.aL = k.bO := by have := ok.oL; omega
  have hObL : ¬ k.aO = k.bL := by have := ok.oO; have := ok.oL; have := ok.lL; omega
  clear M1 hcast cR fR
  have hvi : (v : Int) < (g.n : Int) := by omega
  have hv0 : (0 : Int) ≤ (v : Int) := by omega
  go_region_held3 (fun w' => w'.cell? ⟨k.bO, 0, none⟩ = some (.slice (some ⟨k.aO, 0, none⟩) g.n g.n) ∧ w'.cell? ⟨k.bL, 0, none⟩ = some (.slice (some ⟨k.aL, 0, none⟩) g.n g.n) ∧ w'.cell? ⟨k.bR, 0, none⟩ = some (.int .i32 ((s.cnt : Int) + 1))) (go_keep) (fail)
  have M1 := HM1.out
  have M2 := (M1.setO ok v (s.cnt + 1)).setL ok v (s.cnt + 1)
  have hcast : ((s.cnt + 1 : Nat) : Int) = (s.cnt : Int) + 1 := by omega
  simp only [hcast] at M2
  have M2 := M2.below ok ((Below.refl _ _).drew)
  have HM2 : Hid _ := M2
  have hGaO : k.bG ≤ k.aO := Nat.le_of_lt ok.gO
  have hGaL : k.bG ≤ k.aL := by have := ok.gO; have := ok.oO; have := ok.oL; omega
  have HB2 : Hid _ := ((HB1.out.setCell (p := ⟨k.aO, v, none⟩) hGaO (.int .i32 ((s.cnt : Int) + 1))).setCell (p := ⟨k.aL, v, none⟩) hGaL (.int .i32 ((s.cnt : Int) + 1))).drew
  clear M1 M2 hcast cR1 cO1 cL1 cOv cLv fO fL hOL hLO hOO hOR hLR hLL hLbO hObL
  generalize ((w1.setCell ⟨k.aO, v, none⟩ (.int .i32 ((s.cnt : Int) + 1))).setCell ⟨k.aL, v, none⟩ (.int .i32 ((s.cnt : Int) + 1))).drew = w2 at *
  clear HM1 HB1 h
  have M2 := HM2.out
  obtain ⟨pv, hP, hpr⟩ := M2.pBox
  have cP := hP.one
  have cG := M2.gBox.one
  have hsG : k.bS < k.bG := ok.sG
  have hGs := M2.gBox.lt
  have hPs := hP.lt
  have hgm := M2.gm
  have hbase := M2.sz
  have HG : Hid _ := M2.gBox
  have HP : Hid (Blk w2 k.bP 62 #[pv]) := hP
  have HPR : Hid (w2.ownsRow k.base 66 2 pv s.path.length (frames s.path)) := hpr
  have HGM : Hid _ := hgm
  clear hP hpr M2 hgm
  obtain ⟨i6, hi6, hz60, hz61, hz62⟩ := info_parts info66
  have hmf := m_first
  go_wp2
  go_region_law
    (first
      | (go_simp; go_at_call 83; refine (firstArc_any g k.m k.bS k.bX v _ hn hv (by exact HGM.out.other rfl rfl) (by show k.bS < w2.heap.size; omega)).mono ?_; rintro e w3 ⟨rfl, hb3⟩; have hcP3 : w3.cell? ⟨k.bP, 0, none⟩ = some pv := (hb3.cell (by exact hPs)).trans cP; have hcPa : ∀ o, (w3.alloc o).cell? ⟨k.bP, 0, none⟩ = some pv := fun o => ((HP.out.below (below_undrew hb3) hPs).alloc o).one)
      | (refine step_append_lies _ (by rfl) _ _ 62 (by rfl) k.base 66 i6 (.agg #[.int .i32 0, .int .i64 0]) 2 16 Yba.underlying62 hi6 hz60 hz61 hz62 rfl (by decide) pv s.path.length (frames s.path) (by rfl) ((owns_below (w := w2.drew) HPR.out hb3).alloc _) ⟨w3.heap.size, 0, none⟩ 1 1 [.int .i32 (v : Int), .int .i64 (g.st v : Int)] (by rfl) (by rfl) (World.news_of_block (heap_alloc_new w3 _)) (by intro u hu; simp at hu; rcases hu with rfl | rfl <;> rfl) (by decide) (by unfold maxLen; omega) (by omega) (by have := hb3.size; simp at this ⊢; omega) _ rfl ?_; intro ga cap w4 hown4 hgrow4 hat4 hlt4; have hA4 := arm_facts HM2.out ok HP.out HPR.out (below_undrew hb3) hgrow4; have hcP4 := hA4.1; have hfP4 := hA4.2.1; have hcG4 := hA4.2.2))
  all_goals
    obtain ⟨i2, hi2, hz20, hz21, hz22⟩ := info_parts info21
    have hpush := push_path (v := v) (c := g.st v) HM2.out ok HP.out HPR.out (below_undrew hb3) hgrow4 hown4
    have HM5 : Hid (Mem g k { ord := Tj.upd s.ord v (s.cnt + 1), low := Tj.upd s.low v (s.cnt + 1), on := s.on, path := s.path ++ [(v, g.st v)], opn := s.opn, cnt := s.cnt + 1, comps := s.comps } (w4.setCell ⟨k.bP, 0, none⟩ (.slice (some ⟨ga, 0, none⟩) (s.path.length + 1) cap))) := hpush.1
    have HB5 : Hid (Below k.bG w (w4.setCell ⟨k.bP, 0, none⟩ (.slice (some ⟨ga, 0, none⟩) (s.path.length + 1) cap))) := HB2.out.trans hpush.2
    clear hpush hA4 hcP4 hfP4 hcG4 hcPa hcP3 hlt4 hat4 hown4 hgrow4 hb3 HM2 HP HPR HGM HG HB2 hbase hPs hGs hsG cP cG M2 hGaO hGaL
    generalize w4.setCell ⟨k.bP, 0, none⟩ (.slice (some ⟨ga, 0, none⟩) (s.path.length + 1) cap) = w5 at *
    have M5 := HM5.out
    obtain ⟨qv, hQ, hqr⟩ := M5.qBox
    have cQ := hQ.one
    have hbase := M5.sz
    have HQ : Hid (Blk w5 k.bQ 23 #[qv]) := hQ
    have HQR : Hid (w5.ownsRow k.base 21 1 qv s.opn.length (nodes s.opn)) := hqr
    have hQN : ¬ k.bQ = k.bN := by have := ok.nP; have := ok.pQ; omega
    have hQaN : ¬ k.bQ = k.aN := by have := ok.nN; have := ok.nP; have := ok.pQ; omega
    clear hQ hqr M5
    go_wp2_with (at_builtin; refine wpList_append_lies _ rfl _ _ 23 rfl k.base 21 i2 (.int .i32 0) 1 4 Yba.underlying23 hi2 hz20 hz21 hz22 rfl (by decide) qv s.opn.length (nodes s.opn) rfl (HQR.out.alloc _) ⟨w5.heap.size, 0, none⟩ 1 1 [.int .i32 (v : Int)] rfl rfl (cell_one_new _ _ _) (by intro u hu; simp at hu; subst hu; rfl) (by decide) (by unfold maxLen; omega) (by omega) (by simp; omega) _ rfl ?_; intro gq capq w6 hown6 hgrow6 _ _; have hQ6 := push_open (v := v) HM5.out ok HQ.out HQR.out hgrow6 hown6; have hcQ6 := hQ6.2.2.1; have hfQ6 := hQ6.2.2.2.1; have cN6 := hQ6.2.2.2.2.1.one; have cNv6 : w6.cell? ⟨k.aN, v, none⟩ = some (.bool (s.on v)) := (by rw [hQ6.2.2.2.2.2.cell, bools_at _ _ _ hv]); have fNv6 := hQ6.2.2.2.2.2.free v; have HM7 : Hid _ := hQ6.1; have HB7 : Hid _ := hQ6.2.1; clear hQ6 hown6 hgrow6)
    go_end0
    exact ⟨rfl, HM7.out.setN ok v true, (HB5.out.trans HB7.out).setCell (by show k.bG ≤ k.aN; have := ok.gO; have := ok.oO; have := ok.oL; have := ok.lL; have := ok.lN; omega) _⟩
end Go.Proofs.Ybulkcnjc
