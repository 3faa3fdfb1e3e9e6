/-
  zzs4461cbuild: the walk.
-/
import Derived.Test.YbulkcnjcCNew
import Derived.Test.YbulkcnjcCMod
namespace Go.Proofs.Ybulkcnjc
open Go.RowKit Go.Deep
set_option linter.unusedVariables false
attribute [local go_sem ↓] Go.wp_at_zero Go.wp_at_succ

def OwnI (base : Nat) (zs : List Int) (w : World) (e : Ending) (w' : World) : Prop :=
  ∃ v, e = .returned v ∧ w'.ownsRow base 3 1 v zs.length (zs.map (Value.int .i64)) ∧ Below base w w'

/-- the nodes as they are handed in -/
def NodIn (n₀ : Nat) (W : World) (pn : Option Addr) (zs : List Int) : Prop :=
  zs = [] ∨ ∃ b off, pn = some ⟨b, off, none⟩ ∧ b < n₀ ∧ ∀ j, j < zs.length → W.cell? ⟨b, off + j, none⟩ = some (.int .i64 (zs.getD j 0))
theorem NodIn.below {n₀ : Nat} {A B : World} (h : Below n₀ A B) {pn : Option Addr} {zs : List Int} : NodIn n₀ A pn zs → NodIn n₀ B pn zs
  | .inl e => .inl e
  | .inr ⟨b, off, e, hb, hc⟩ => .inr ⟨b, off, e, hb, fun j hj => (h.cell (p := ⟨b, off + j, none⟩) hb).trans (hc j hj)⟩

theorem cloneI_own (n₀ : Nat) (pn : Option Addr) (cn : Nat) (zs : List Int) (w : World) (hz : zs.length ≤ 512) (hI : NodIn n₀ w pn zs) :
    Calls Yba.prog 12 #[.slice pn zs.length cn] w fun e w' => OwnI w.heap.size zs w e w' := by
  rcases hI with rfl | ⟨b, off, rfl, hb, hc⟩
  · cases pn with
    | none =>
      refine (Yba.slices_Clone_int_nil 0 cn w).mono ?_
      rintro e w' ⟨rfl, rfl⟩
      exact ⟨_, rfl, World.ownsRow_nil _ _ _ _, Below.refl _ _⟩
    | some a =>
      refine (Yba.slices_Clone_int_zero a cn w).mono ?_
      rintro e w' ⟨v, rfl, hown, _, hbl⟩
      exact ⟨v, rfl, hown, hbl⟩
  · refine (Yba.slices_Clone_int b off zs.length cn zs w (Nat.le_refl _) (by omega) hc).mono ?_
    rintro e w' ⟨v, rfl, hown, _, hbl⟩
    rw [List.take_length] at hown
    exact ⟨v, rfl, hown, hbl⟩

def SortI (base : Nat) (v : Value) (zs : List Int) (w : World) (e : Ending) (w' : World) : Prop :=
  e = .returned (.tuple #[]) ∧ w'.ownsRow base 3 1 v zs.length ((zs.mergeSort fun x y => decide (x ≤ y)).map (Value.int .i64)) ∧ Below base w w'

theorem sortI_own (base : Nat) (v : Value) (zs : List Int) (w : World) (hown : w.ownsRow base 3 1 v zs.length (zs.map (Value.int .i64))) (hlen : zs.length ≤ 100000) (hbase : base ≤ w.heap.size) :
    Calls Yba.prog 13 #[v] w fun e w' => SortI base v zs w e w' := by
  rcases hown.2 with ⟨rfl, hz⟩ | ⟨g, cap, cur, rfl, hbg, hg, r1, r2, r3, r4⟩
  · obtain rfl : zs = [] := List.eq_nil_of_length_eq_zero hz
    refine (Yba.slices_Sort_int_none none 0 w).mono ?_
    rintro e w' ⟨rfl, rfl⟩
    exact ⟨rfl, by simpa using hown, Below.refl _ _⟩
  · have hH : Sort.Holds (Value.int .i64) w g 0 zs.toArray := holds_of_blockI hg (by simpa using r4)
    refine (Yba.slices_Sort_int g 0 cap zs w hH (Array.getElem?_eq_some_iff.1 hg).1 (by omega)).mono ?_
    rintro e w' ⟨rfl, nn, os, rfl⟩
    exact ⟨rfl, ownsRow_sortedI (by simp) hbg hg r1 r2 r3, (Below.refl _ _).grown (grownBy_sortedI _) hbase (fun j hj => by cases hj; exact hbg)⟩

theorem ints_owns {base : Nat} {v : Value} {zs : List Int} {w : World} (h : w.ownsRow base 3 1 v zs.length (zs.map (Value.int .i64))) : ∃ p c, v = .slice p zs.length c ∧ It.Ints w.heap.size w (.slice p zs.length c) zs := by
  rcases h.2 with ⟨rfl, hz⟩ | ⟨g, cap, cur, rfl, hbg, hg, r1, r2, r3, r4⟩
  · obtain rfl : zs = [] := List.eq_nil_of_length_eq_zero hz
    exact ⟨none, 0, rfl, Or.inl ⟨rfl, rfl⟩⟩
  · refine ⟨_, cap, rfl, Or.inr ⟨g, 0, cap, rfl, (Array.getElem?_eq_some_iff.1 hg).1, fun j hj => ?_⟩⟩
    rw [Nat.zero_add, h.cellAt j (by omega)]
    simp [hj]

/-- the matrix, k edges in -/
def Ad (x y : Nat → Nat) (m : Nat) : Nat → Nat → Nat → Bool
  | 0 => fun _ _ => false
  | k + 1 => upd2 (Ad x y m k) (x k % m) (y k % m)
theorem Ad_iff (x y : Nat → Nat) (m : Nat) : ∀ k v u, Ad x y m k v u = true ↔ ∃ i, i < k ∧ x i % m = v ∧ y i % m = u
  | 0, v, u => by simp [Ad]
  | k + 1, v, u => by
    show upd2 (Ad x y m k) (x k % m) (y k % m) v u = true ↔ _
    unfold upd2
    by_cases h : v = x k % m ∧ u = y k % m
    · rw [if_pos h]
      exact ⟨fun _ => ⟨k, by omega, h.1.symm, h.2.symm⟩, fun _ => rfl⟩
    · rw [if_neg h, Ad_iff x y m k v u]
      constructor
      · rintro ⟨i, h1, h2⟩; exact ⟨i, by omega, h2⟩
      · rintro ⟨i, h1, h2, h3⟩
        refine ⟨i, ?_, h2, h3⟩
        by_cases e : i = k
        · subst e; exact absurd ⟨h2.symm, h3.symm⟩ h
        · omega

structure BM (B0 bU bA base : Nat) (pU : Option Addr) (w0 : World) (m : Nat) (R : Nat → Nat → Bool) (U : Nat → Int) (ov : Value) (k : Nat) (E0 : Nat → Int × Int) (w : World) : Prop where
  bel : Below B0 w0 w
  mb : Blk w bA 4 (mat m R)
  nd : ∀ i, i < m → pU = some ⟨bU, 0, none⟩ ∧ w.cell? ⟨bU, i, none⟩ = some (.int .i64 (U i))
  od : w.ownsRow base 52 2 ov k (rowE E0 k)
  h0 : 0 < m → B0 ≤ bU ∧ bU < bA
  h1 : B0 ≤ bA
  h2 : bA < base
  sz : base ≤ w.heap.size

section
variable {B0 bU bA base : Nat} {pU : Option Addr} {w0 : World} {m : Nat} {R : Nat → Nat → Bool} {U : Nat → Int} {ov : Value} {k : Nat} {E0 : Nat → Int × Int} {w w' : World}
theorem BM.mark (h : BM B0 bU bA base pU w0 m R U ov k E0 w) {a b : Nat} (ha : a < m) (hb : b < m) : BM B0 bU bA base pU w0 m (upd2 R a b) U ov k E0 (w.setCell ⟨bA, a * m + b, none⟩ (.bool true)) := by
  have a0 := h.h0
  have a1 := h.h1
  have a2 := h.h2
  refine ⟨h.bel.setCell (by exact a1) _, ?_, fun i hi => ⟨(h.nd i hi).1, ?_⟩, ownsRow_setCell_below h.od (by show bA < base; omega) _, a0, a1, a2, by rw [World.size_setCell]; exact h.sz⟩
  · have := h.mb.set (a * m + b) (.bool true)
    rwa [mat_set m R ha hb] at this
  · have b0 := a0 (by omega)
    rw [World.cell?_setCell_far _ _ _ _ (by show bA ≠ bU; omega)]
    exact (h.nd i hi).2
theorem BM.drew (h : BM B0 bU bA base pU w0 m R U ov k E0 w) : BM B0 bU bA base pU w0 m R U ov k E0 w.drew := ⟨h.bel.drew, h.mb, h.nd, h.od, h.h0, h.h1, h.h2, h.sz⟩
theorem BM.below (h : BM B0 bU bA base pU w0 m R U ov k E0 w) (hb : Below w.heap.size w w') : BM B0 bU bA base pU w0 m R U ov k E0 w' := by
  have a0 := h.h0
  have a1 := h.h1
  have a2 := h.h2
  have a3 := h.sz
  have a4 := hb.size
  refine ⟨h.bel.trans (hb.mono (by omega)), h.mb.below hb h.mb.lt, fun i hi => ⟨(h.nd i hi).1, ?_⟩, owns_below h.od hb, a0, a1, a2, by omega⟩
  have b0 := a0 (by omega)
  rw [hb.cell (by show bU < w.heap.size; omega)]
  exact (h.nd i hi).2
theorem BM.push (h : BM B0 bU bA base pU w0 m R U ov k E0 w) {o : Obj} {g cap : Nat} {a b : Int} (hg : (w.alloc o).grownBy w' ov.ownBlock) (he : E0 k = (a, b))
    (hown : w'.ownsRow base 52 2 (.slice (some ⟨g, 0, none⟩) (k + 1) cap) (k + 1) (rowE E0 k ++ [.int .i64 a, .int .i64 b])) : BM B0 bU bA base pU w0 m R U (.slice (some ⟨g, 0, none⟩) (k + 1) cap) (k + 1) E0 w' := by
  have h' := h.below ((Below.refl _ _).alloc (Nat.le_refl _) o)
  have a0 := h'.h0
  have a1 := h'.h1
  have a2 := h'.h2
  have a3 := h'.sz
  have a4 := hg.size
  have hn : ∀ b, b < base → some b ≠ ov.ownBlock := fun b hb' e => by have := (h'.od.lt b e.symm).1; omega
  refine ⟨h'.bel.grown hg (by omega) (fun x hx => by have := (h'.od.lt x hx).1; omega), h'.mb.grown hg (hn bA (by omega)), fun i hi => ⟨(h'.nd i hi).1, ?_⟩, ?_, a0, a1, a2, by omega⟩
  · have b0 := a0 (by omega)
    rw [hg.cell_far _ (by show bU < (w.alloc o).heap.size; omega) (by show some bU ≠ _; exact hn bU (by omega))]
    exact (h'.nd i hi).2
  · rw [rowE_succ, he]
    exact hown
end

def BuildRes (m : Nat) (U : Nat → Int) (w : World) (e : Ending) (w' : World) : Prop :=
  ∃ A pU cU bU bA bg K ST FB bS bX bN pN cN ev, e = .returned (.tuple #[.slice pU m cU, .slice (some ⟨bA, 0, none⟩) (m * m) (m * m), .pointer (some ⟨bg, 0, none⟩)]) ∧ Blk w' bA 4 (mat m A) ∧
    (∀ i, i < m → pU = some ⟨bU, 0, none⟩ ∧ w'.cell? ⟨bU, i, none⟩ = some (.int .i64 (U i))) ∧ (0 < m → bU < w'.heap.size) ∧ K ≤ 1024 ∧ GR m K ST FB U bg bS bX bN pN cN ev w' ∧ Kh.Gr A m K ST FB ∧ Below w.heap.size w w'

theorem make_edge0 (n : Nat) (hn : n ≤ 100000) (W : World) : (Instr.makeSlice 47 (.int .i64 0) (.int .i64 (n : Int))).run Yba.prog W = .ok (.slice (some ⟨W.heap.size, 0, none⟩) 0 n) (W.alloc (.cells (madeCells #[.int .i64 0, .int .i64 0] (n * 2)) 52)) := by
  obtain ⟨i, hi, hz, hs, hb⟩ := info_parts info52
  have hr := run_make (P := Yba.prog) W 47 52 i _ Yba.underlying47 hi hz .i64 .i64 0 n (by omega) (by omega) (by rw [hb]; omega) (by omega)
  simp only [Int.toNat_natCast, hs] at hr
  exact hr
theorem owns_edge0 (w : World) (B n : Nat) (D : Nat → Int × Int) (hB : B ≤ w.heap.size) (hn : n ≤ 100000) : (w.alloc (.cells (madeCells #[.int .i64 0, .int .i64 0] (n * 2)) 52)).ownsRow B 52 2 (.slice (some ⟨w.heap.size, 0, none⟩) 0 n) 0 (rowE D 0) := by
  refine ⟨rfl, Or.inr ⟨w.heap.size, n, madeCells #[.int .i64 0, .int .i64 0] (n * 2), rfl, hB, heap_alloc_new _ _, Nat.zero_le _, by unfold maxLen; omega, ?_, ?_⟩⟩
  · rw [size_madeCells]
  · simp [rowE]

def EdP (U : Nat → Int) (x y : Nat → Nat) (m i : Nat) : Int × Int := (U (x i % m), U (y i % m))

def MidC (B0 bU bA : Nat) (pU : Option Addr) (w0 : World) (len m : Nat) (x y : Nat → Nat) (U : Nat → Int) (ev : Value) (wx : World) : Prop :=
  ∃ k g c, k ≤ len ∧ (0 < k → 0 < m) ∧ ev = .slice (some ⟨g, 0, none⟩) k c ∧ BM B0 bU bA (bA + 1) pU w0 m (Ad x y m k) U (.slice (some ⟨g, 0, none⟩) k c) k (EdP U x y m) wx

set_option maxRecDepth 100000 in
set_option maxHeartbeats 6400000 in
theorem build_any (zs : List Int) (pn ea : Option Addr) (cn len cap eb eo m : Nat) (x y : Nat → Nat) (w : World) (hz : zs.length ≤ 512) (hm : m = (uList zs).length) (hu : UOk (uN zs) m)
    (hI : NodIn w.heap.size w pn zs) (hlen : len ≤ 1024) (hx : ∀ i, i < len → x i < 65536) (hy : ∀ i, i < len → y i < 65536)
    (hcell : ∀ i, i < len → ea = some ⟨eb, eo, none⟩ ∧ w.cell? ⟨eb, eo + i * 2, none⟩ = some (.int .u16 (x i : Int)) ∧ w.cell? ⟨eb, eo + i * 2 + 1, none⟩ = some (.int .u16 (y i : Int))) (heb : 0 < len → eb < w.heap.size) :
    Calls Yba.prog 6 #[.slice pn zs.length cn, .slice ea len cap] w fun e w' => BuildRes m (uN zs) w e w' := by
  have HI : Hid (NodIn w.heap.size w pn zs) := hI
  have HCell : Hid (∀ i, i < len → ea = some ⟨eb, eo, none⟩ ∧ w.cell? ⟨eb, eo + i * 2, none⟩ = some (.int .u16 (x i : Int)) ∧ w.cell? ⟨eb, eo + i * 2 + 1, none⟩ = some (.int .u16 (y i : Int))) := hcell
  have HX : Hid (∀ i, i < len → x i < 65536) := hx
  have HY : Hid (∀ i, i < len → y i < 65536) := hy
  have HEB : Hid (0 < len → eb < w.heap.size) := heb
  have HU : Hid (UOk (uN zs) m) := hu
  have HMd : Hid (m = (uList zs).length) := hm
  have hm5 : m ≤ 512 := by have := uList_len zs; omega
  clear hI hcell hx hy heb hu hm
  go_enter Yba.func6, Yba.ntmps6
  go_upto_region 5 with (first
    | (go_at_call 12; refine (cloneI_own _ pn cn zs _ hz HI.out).mono ?_; rintro e w1 ⟨v1, rfl, hrow1, hb1⟩
       have HR1 : Hid _ := hrow1
       have HB1 : Hid _ := hb1
       clear hrow1 hb1)
    | (go_at_call 13; refine (sortI_own w.heap.size v1 zs _ HR1.out (by omega) HB1.out.size).mono ?_; rintro e w2 ⟨rfl, hrow2, hb2⟩
       have HR2 : Hid _ := hrow2
       have HB2 : Hid (Below w.heap.size w w2) := HB1.out.trans hb2
       clear hrow2 hb2)
    | (go_at_call 14; refine (compactN_own w.heap.size m v1 zs _ HMd.out HR2.out (by omega) HB2.out.size).mono ?_; rintro e w3 ⟨pU, cU, bU, rfl, hN3, hbN3, hb3⟩
       have HN3 : Hid _ := hN3
       have HBN3 : Hid _ := hbN3
       have HB3 : Hid (Below w.heap.size w w3) := HB2.out.trans hb3
       clear hN3 hbN3 hb3))
  clear HR1 HB1 HR2 HB2
  have hnn : m * m ≤ 512 * 512 := Nat.mul_le_mul hm5 hm5
  have hmb := fun W => run_make_row' (P := Yba.prog) 30 4 (.bool false) 1 Yba.underlying30 info4 rfl .i64 .i64 (m * m) (by omega) (by omega) W
  simp only [Int.natCast_mul] at hmb
  have hnni : (m : Int) * (m : Int) ≤ 262144 := by rw [← Int.natCast_mul]; omega
  have hnn0 : (0 : Int) ≤ (m : Int) * (m : Int) := by rw [← Int.natCast_mul]; omega
  have hme := fun W => make_edge0 len (by omega) W
  go_upto_if 31 with fail
  clear hmb hme
  have hBM : BM w.heap.size bU w3.heap.size (w3.heap.size + 1) pU w m (Ad x y m 0) (uN zs) (.slice (some ⟨w3.heap.size + 1, 0, none⟩) 0 len) 0 (EdP (uN zs) x y m) ((w3.alloc (.cells (madeCells #[.bool false] (m * m)) 4)).alloc (.cells (madeCells #[.int .i64 0, .int .i64 0] (len * 2)) 52)) := by
    have q3 := HB3.out.size
    have hb4 : Below w3.heap.size w3 ((w3.alloc (.cells (madeCells #[.bool false] (m * m)) 4)).alloc (.cells (madeCells #[.int .i64 0, .int .i64 0] (len * 2)) 52)) := ((Below.refl _ _).alloc (Nat.le_refl _) _).alloc (by simp) _
    refine ⟨HB3.out.trans (hb4.mono q3), ?_, fun i hi => ⟨(HN3.out i hi).1, ?_⟩, ?_, fun h => HBN3.out h, q3, by omega, by simp⟩
    · show Blk _ _ 4 (mat m (fun _ _ => false))
      rw [← made_mat]
      exact (Blk.new _ _ _).alloc _
    · have := (HBN3.out (by omega)).2
      rw [hb4.cell (by show bU < w3.heap.size; omega)]
      exact (HN3.out i hi).2
    · have := owns_edge0 (w3.alloc (.cells (madeCells #[.bool false] (m * m)) 4)) (w3.heap.size + 1) len (EdP (uN zs) x y m) (by simp) (by omega)
      rw [World.size_alloc] at this
      exact this
  have HBM : Hid (BM w.heap.size bU w3.heap.size (w3.heap.size + 1) pU w m (Ad x y m 0) (uN zs) (.slice (some ⟨w3.heap.size + 1, 0, none⟩) 0 len) 0 (EdP (uN zs) x y m) ((w3.alloc (.cells (madeCells #[.bool false] (m * m)) 4)).alloc (.cells (madeCells #[.int .i64 0, .int .i64 0] (len * 2)) 52))) := hBM
  clear hBM HN3 HBN3 HB3
  generalize (w3.alloc (.cells (madeCells #[.bool false] (m * m)) 4)).alloc (.cells (madeCells #[.int .i64 0, .int .i64 0] (len * 2)) 52) = w5 at HBM ⊢
  generalize w3.heap.size = bA at HBM ⊢
  generalize hN : m * m = N at hnn ⊢
  go_cut [10] (fun ev wx => MidC w.heap.size bU bA pU w len m x y (uN zs) ev wx)
  case first =>
    by_cases h0 : 0 < m
    · have h0i : (0 : Int) < (m : Int) := by omega
      rw [show decide (0 < m) = true from decide_eq_true h0]
      go_wp2
      go_loopg [10, 11, 12, 13] len (fun gk es i ua ub wr => ∃ k g c : Nat, k ≤ len ∧ gk + k = len ∧ es = .slice (some ⟨g, 0, none⟩) k c ∧ i = .int .i64 (k : Int) ∧ BM w.heap.size bU bA (bA + 1) pU w m (Ad x y m k) (uN zs) (.slice (some ⟨g, 0, none⟩) k c) k (EdP (uN zs) x y m) wr)
      case atStart => exact ⟨0, _, _, Nat.zero_le _, rfl, rfl, rfl, HBM.out⟩
      case round =>
        clear HBM
        obtain ⟨k, g, c, hk, hgk, rfl, rfl, hM⟩ := hrel
        have HM : Hid (BM w.heap.size bU bA (bA + 1) pU w m (Ad x y m k) (uN zs) (.slice (some ⟨g, 0, none⟩) k c) k (EdP (uN zs) x y m) wr) := hM
        clear hM
        by_cases hkl : k < len
        · have hki : (k : Int) < (len : Int) := by omega
          obtain ⟨rfl, c1, c2⟩ := HCell.out k hkl
          have hebs := HEB.out (by omega)
          have hxk := HX.out k hkl
          have hyk := HY.out k hkl
          have d1 : wr.cell? ⟨eb, eo + k * 2, none⟩ = some (.int .u16 (x k : Int)) := (HM.out.bel.cell hebs).trans c1
          have d2 : wr.cell? ⟨eb, eo + k * 2 + 1, none⟩ = some (.int .u16 (y k : Int)) := (HM.out.bel.cell hebs).trans c2
          clear c1 c2
          go_upto_region 13 with fail
          clear d1 d2
          simp only [← Int.natCast_emod]
          have ha : x k % m < m := Nat.mod_lt _ h0
          have hb : y k % m < m := Nat.mod_lt _ h0
          have HE : Hid (EdP (uN zs) x y m k = (uN zs (x k % m), uN zs (y k % m))) := rfl
          have HAd : Hid (upd2 (Ad x y m k) (x k % m) (y k % m) = Ad x y m (k + 1)) := rfl
          generalize x k % m = a at ha HE HAd ⊢
          generalize y k % m = b at hb HE HAd ⊢
          have hai : (a : Int) < (m : Int) := by omega
          have hbi : (b : Int) < (m : Int) := by omega
          obtain ⟨b1, b2, b3, b4⟩ := idx512 hm5 hN ha hb
          have d3 : wr.cell? ⟨bA, a * m + b, none⟩ = some (.bool (Ad x y m k a b)) := by rw [HM.out.mb.cell, mat_at _ _ ha hb]
          have f3 : wr.frozen? ⟨bA, a * m + b, none⟩ = false := HM.out.mb.free _
          have HMk : Hid (BM w.heap.size bU bA (bA + 1) pU w m (Ad x y m (k + 1)) (uN zs) (.slice (some ⟨g, 0, none⟩) k c) k (EdP (uN zs) x y m) (wr.setCell ⟨bA, a * m + b, none⟩ (.bool true))) := by
            rw [← HAd.out]; exact HM.out.mark ha hb
          generalize Ad x y m k a b = z at d3
          clear HM HAd
          go_upto_region 14 with fail
          clear d3 f3 b1 b2 b3 b4
          generalize wr.setCell ⟨bA, a * m + b, none⟩ (.bool true) = wM at HMk ⊢
          obtain ⟨rfl, u1⟩ := HMk.out.nd a ha
          have u2 := (HMk.out.nd b hb).2
          generalize uN zs a = ua at u1 HE
          generalize uN zs b = ub at u2 HE
          obtain ⟨i5, hi5, hz50, hz51, hz52⟩ := info_parts info52
          have hs5 := HMk.out.sz
          go_region_law
            (refine step_append_lies _ (by rfl) _ _ 47 (by rfl) (bA + 1) 52 i5 (.agg #[.int .i64 0, .int .i64 0]) 2 16 Yba.underlying47 hi5 hz50 hz51 hz52 rfl (by decide) (.slice (some ⟨g, 0, none⟩) k c) k (rowE (EdP (uN zs) x y m) k) (by rfl) (HMk.out.drew.od.alloc _) ⟨wM.heap.size, 0, none⟩ 1 1 [.int .i64 ua, .int .i64 ub] (by rfl) (by rfl) (World.news_of_block (heap_alloc_new wM.drew _)) (by intro u hu; simp at hu; rcases hu with rfl | rfl <;> rfl) (by decide) (by unfold maxLen; omega) (by omega) (by simp; omega) _ rfl ?_; intro gq capq w6 hown6 hgrow6 hat6 _; have HM6 : Hid _ := HMk.out.drew.push hgrow6 HE.out hown6)
          all_goals
            clear hown6 hgrow6 hat6 u1 u2 HMk
            go_wp2
            go_roundg (gk - 1)
            case measure => omega
            case rel => exact ⟨k + 1, gq, capq, by omega, by omega, rfl, by go_num, HM6.out⟩
        · have hki : ¬ (k : Int) < (len : Int) := by omega
          obtain rfl : k = len := by omega
          go_wp2
          go_meet
          case rel => exact ⟨k, g, c, Nat.le_refl _, fun _ => h0, rfl, HM.out⟩
    · obtain rfl : m = 0 := by omega
      go_wp2
      go_meet
      case rel => exact ⟨0, _, _, Nat.zero_le _, fun h => absurd h (Nat.lt_irrefl _), rfl, HBM.out⟩
  case rest =>
    clear HBM HCell HX HY HEB
    obtain ⟨k, gE, capE, hk, hk0, rfl, hM⟩ := hcut
    have HM : Hid (BM w.heap.size bU bA (bA + 1) pU w m (Ad x y m k) (uN zs) (.slice (some ⟨gE, 0, none⟩) k capE) k (EdP (uN zs) x y m) wc) := hM
    have HK0 : Hid (0 < k → 0 < m) := hk0
    have hgE : gE < wc.heap.size := (hM.od.lt gE rfl).2
    clear hM hk0
    go_wp2_with (first
      | (go_at_call 12; refine (cloneI_own _ pn cn zs _ hz (HI.out.below HM.out.bel)).mono ?_; rintro e w6 ⟨v6, rfl, hrow6, hb6⟩; obtain ⟨p6, c6, rfl, hI6⟩ := ints_owns hrow6
         have HI6 : Hid _ := hI6
         have HB6 : Hid _ := hb6
         clear hrow6 hb6 hI6)
      | (go_at_call 15; refine (newGraph_any (Ad x y m k) zs p6 c6 gE capE k m (EdP (uN zs) x y m) (fun i => x i % m) (fun i => y i % m) _ hz HMd.out HU.out HI6.out (ERow.below (erow_owns HM.out.od) HB6.out hgE) (Nat.lt_of_lt_of_le hgE HB6.out.size) (by omega) (fun i hi => ⟨Nat.mod_lt _ (HK0.out (by omega)), Nat.mod_lt _ (HK0.out (by omega)), rfl⟩) (fun v u => Ad_iff x y m k v u)).mono ?_; rintro e w7 ⟨bg, K, ST, FB, bS, bX, bN, pN, cN, ev, rfl, hK7, hG7, hGr7, hb7⟩
         have HG7 : Hid _ := hG7
         have HGr7 : Hid _ := hGr7
         have HB7 : Hid _ := hb7
         clear hG7 hGr7 hb7))
    go_ret3
    have hM7 := (HM.out.below HB6.out).below HB7.out
    have hs7 := HM.out.sz
    have hs6 := HB6.out.size
    have hs8 := HB7.out.size
    refine ⟨Ad x y m k, pU, cU, bU, bA, bg, K, ST, FB, bS, bX, bN, pN, cN, ev, by rw [hN]; rfl, hM7.mb, hM7.nd, fun h => ?_, by omega, HG7.out, HGr7.out, hM7.bel⟩
    have := HM.out.h0 h
    have := HM.out.h2
    omega

end Go.Proofs.Ybulkcnjc
