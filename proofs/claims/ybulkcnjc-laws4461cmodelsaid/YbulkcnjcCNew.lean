/-
  newGraph: the walk.
-/
import Derived.Test.YbulkcnjcCEdOwn
import Derived.Test.YbulkcnjcCSer
import Derived.BigRegion
namespace Go.Proofs.Ybulkcnjc
open Go.RowKit Go.Deep
set_option linter.unusedVariables false
attribute [local go_sem ↓] Go.wp_at_zero Go.wp_at_succ

def uN (zs : List Int) (i : Nat) : Int := (uList zs).getD i 0

def NodM (base m : Nat) (U : Nat → Int) (w : World) (e : Ending) (w' : World) : Prop :=
  ∃ p c bN, e = .returned (.slice p m c) ∧ (∀ i, i < m → p = some ⟨bN, 0, none⟩ ∧ w'.cell? ⟨bN, i, none⟩ = some (.int .i64 (U i))) ∧ (0 < m → base ≤ bN ∧ bN < w'.heap.size) ∧ Below base w w'

theorem compactN_own (base m : Nat) (v : Value) (zs : List Int) (w : World) (hm : m = (uList zs).length) (hown : w.ownsRow base 3 1 v zs.length ((zs.mergeSort fun x y => decide (x ≤ y)).map (Value.int .i64))) (hlen : zs.length ≤ 100000) (hbase : base ≤ w.heap.size) :
    Calls Yba.prog 14 #[v] w fun e w' => NodM base m (uN zs) w e w' := by
  subst hm
  have hl : zs.length = (sortL zs).length := by simp [sortL]
  rw [hl] at hown hlen
  exact compactI_own base v (sortL zs) w hown hlen hbase

structure NM (B0 m bN gE bg : Nat) (pN : Option Addr) (U : Nat → Int) (K : Nat) (D : Nat → Int × Int) (C : Array Value) (w0 w : World) : Prop where
  bel : Below B0 w0 w
  nd : ∀ i, i < m → pN = some ⟨bN, 0, none⟩ ∧ w.cell? ⟨bN, i, none⟩ = some (.int .i64 (U i))
  er : ERow gE K D w
  gb : Blk w bg 55 C
  h1 : 0 < m → B0 ≤ bN ∧ bN < gE
  h2 : B0 ≤ gE
  h3 : gE < bg

section
variable {B0 m bN gE bg : Nat} {pN : Option Addr} {U : Nat → Int} {K : Nat} {D : Nat → Int × Int} {C : Array Value} {w0 w w' : World}

theorem NM.sz (h : NM B0 m bN gE bg pN U K D C w0 w) : bg < w.heap.size := h.gb.lt
/-- the edges turn -/
theorem NM.edges (h : NM B0 m bN gE bg pN U K D C w0 w) {K' : Nat} {D' : Nat → Int × Int} (hc : CM gE K' D' w w') : NM B0 m bN gE bg pN U K' D' C w0 w' := by
  have a1 := h.h1
  have a2 := h.h2
  have a3 := h.h3
  have a4 := h.sz
  refine ⟨h.bel.grown hc.fr (by omega) (fun x hx => by cases hx; exact a2), fun i hi => ⟨(h.nd i hi).1, ?_⟩, hc.row, h.gb.grown hc.fr (fun e => by simp at e; omega), h.h1, a2, a3⟩
  have b1 := a1 (by omega)
  rw [hc.fr.cell_far _ (by show bN < w.heap.size; omega) (fun e => by simp at e; omega)]
  exact (h.nd i hi).2
/-- a field turns -/
theorem NM.field (h : NM B0 m bN gE bg pN U K D C w0 w) (j : Nat) (v : Value) : NM B0 m bN gE bg pN U K D (C.setIfInBounds j v) w0 (w.setCell ⟨bg, j, none⟩ v) := by
  have a1 := h.h1
  have a2 := h.h2
  have a3 := h.h3
  refine ⟨h.bel.setCell (by show B0 ≤ bg; omega) _, fun i hi => ⟨(h.nd i hi).1, ?_⟩, fun i hi => ?_, h.gb.set j v, a1, a2, a3⟩
  · have b1 := a1 (by omega)
    rw [World.cell?_setCell_far _ _ _ _ (by show bg ≠ bN; omega)]
    exact (h.nd i hi).2
  · obtain ⟨c1, c2, f1, f2⟩ := h.er i hi
    exact ⟨by rw [World.cell?_setCell_far _ _ _ _ (by show bg ≠ gE; omega)]; exact c1, by rw [World.cell?_setCell_far _ _ _ _ (by show bg ≠ gE; omega)]; exact c2, by rw [World.frozen?_setCell]; exact f1, by rw [World.frozen?_setCell]; exact f2⟩
/-- what lies behind turns -/
theorem NM.keep (h : NM B0 m bN gE bg pN U K D C w0 w) {B : Nat} (hb : Below B w w') (hB : bg < B) : NM B0 m bN gE bg pN U K D C w0 w' := by
  have a1 := h.h1
  have a2 := h.h2
  have a3 := h.h3
  refine ⟨h.bel.trans (hb.mono (by omega)), fun i hi => ⟨(h.nd i hi).1, ?_⟩, fun i hi => ?_, h.gb.below hb hB, a1, a2, a3⟩
  · have b1 := a1 (by omega)
    rw [hb.cell (by show bN < B; omega)]
    exact (h.nd i hi).2
  · obtain ⟨c1, c2, f1, f2⟩ := h.er i hi
    exact ⟨by rw [hb.cell (by show gE < B; omega)]; exact c1, by rw [hb.cell (by show gE < B; omega)]; exact c2, by rw [World.frozen?_of_block (hb.block gE (by omega))]; exact f1, by rw [World.frozen?_of_block (hb.block gE (by omega))]; exact f2⟩
end

theorem ERow.below {g n : Nat} {D : Nat → Int × Int} {w w' : World} (h : ERow g n D w) {B : Nat} (hb : Below B w w') (hB : g < B) : ERow g n D w' := fun i hi => by
  obtain ⟨c1, c2, f1, f2⟩ := h i hi
  exact ⟨by rw [hb.cell hB]; exact c1, by rw [hb.cell hB]; exact c2, by rw [World.frozen?_of_block (hb.block g hB)]; exact f1, by rw [World.frozen?_of_block (hb.block g hB)]; exact f2⟩

/-- the rows of the edge lists, k edges in -/
structure LM (B0 m bN gE bg bm bS bX : Nat) (pN : Option Addr) (cN capE : Nat) (U : Nat → Int) (K : Nat) (D : Nat → Int × Int) (S X : Nat → Nat) (w0 w : World) : Prop where
  nm : NM B0 m bN gE bg pN U K D #[.slice pN m cN, .slice (some ⟨gE, 0, none⟩) K capE, .slice (some ⟨bS, 0, none⟩) (m + 1) (m + 1), .slice (some ⟨bX, 0, none⟩) K K] w0 w
  mx : MapIx U bm m w
  sb : Blk w bS 3 (lints (m + 1) S)
  xb : Blk w bX 21 (ints K X)
  k1 : bg < bm
  k2 : bm < bS
  k3 : bS < bX

section
variable {B0 m bN gE bg bm bS bX : Nat} {pN : Option Addr} {cN capE : Nat} {U : Nat → Int} {K : Nat} {D : Nat → Int × Int} {S X : Nat → Nat} {w0 w w' : World}
theorem LM.keep (h : LM B0 m bN gE bg bm bS bX pN cN capE U K D S X w0 w) (hb : Below w.heap.size w w') : LM B0 m bN gE bg bm bS bX pN cN capE U K D S X w0 w' :=
  ⟨h.nm.keep hb h.nm.sz, h.mx.block (hb.block bm h.mx.lt), h.sb.below hb h.sb.lt, h.xb.below hb h.xb.lt, h.k1, h.k2, h.k3⟩
theorem LM.setS (h : LM B0 m bN gE bg bm bS bX pN cN capE U K D S X w0 w) (i x : Nat) : LM B0 m bN gE bg bm bS bX pN cN capE U K D (Tj.upd S i x) X w0 (w.setCell ⟨bS, i, none⟩ (.int .i64 (x : Int))) := by
  have a1 := h.k1
  have a2 := h.k2
  have a3 := h.k3
  refine ⟨h.nm.keep (B := bS) ((Below.refl bS w).setCell (p := ⟨bS, i, none⟩) (Nat.le_refl _) _) (by omega), h.mx.other (by show bm ≠ bS; omega) _, ?_, h.xb.other (by show bX ≠ bS; omega) _, a1, a2, a3⟩
  have := h.sb.set i (.int .i64 (x : Int))
  rwa [lints_set] at this
theorem LM.setX (h : LM B0 m bN gE bg bm bS bX pN cN capE U K D S X w0 w) (i x : Nat) : LM B0 m bN gE bg bm bS bX pN cN capE U K D S (Tj.upd X i x) w0 (w.setCell ⟨bX, i, none⟩ (.int .i32 (x : Int))) := by
  have a1 := h.k1
  have a2 := h.k2
  have a3 := h.k3
  refine ⟨h.nm.keep (B := bX) ((Below.refl bX w).setCell (p := ⟨bX, i, none⟩) (Nat.le_refl _) _) (by omega), h.mx.other (by show bm ≠ bX; omega) _, h.sb.other (by show bS ≠ bX; omega) _, ?_, a1, a2, a3⟩
  have := h.xb.set i (.int .i32 (x : Int))
  rwa [ints_set] at this
end

def fX (FB : Nat → Nat) (k : Nat) : Nat → Nat := fun i => if i < k then FB i else 0
theorem fX_step (FB : Nat → Nat) (k : Nat) : Tj.upd (fX FB k) k (FB k) = fX FB (k + 1) := by
  funext i
  unfold Tj.upd fX
  by_cases e : i = k
  · subst e; simp
  · have : i < k + 1 ↔ i < k := by omega
    simp [e, this]

def NGRes (A : Nat → Nat → Bool) (m nE : Nat) (U : Nat → Int) (w : World) (e : Ending) (w' : World) : Prop :=
  ∃ bg K ST FB bS bX bN pN cN ev, e = .returned (.pointer (some ⟨bg, 0, none⟩)) ∧ K ≤ nE ∧ GR m K ST FB U bg bS bX bN pN cN ev w' ∧ Kh.Gr A m K ST FB ∧ Below w.heap.size w w'

theorem UOk.lt {U : Nat → Int} {m : Nat} (h : UOk U m) {i j : Nat} (hi : i < m) (hj : j < m) (e : U i < U j) : i < j := by
  rcases Nat.lt_trichotomy i j with h' | h' | h'
  · exact h'
  · subst h'; omega
  · have := h.inc j i h' hi; omega

theorem idx_of {A : Nat → Nat → Bool} {m nE K : Nat} {x y : Nat → Nat} {U : Nat → Int} {E0 D : Nat → Int × Int} (hu : UOk U m) (hxy : ∀ i, i < nE → x i < m ∧ y i < m ∧ E0 i = (U (x i), U (y i))) (hA : ∀ v u, A v u = true ↔ ∃ i, i < nE ∧ x i = v ∧ y i = u)
    (hmem : ∀ p, (∃ i, i < K ∧ D i = p) ↔ (∃ i, i < nE ∧ E0 i = p)) (hinc : ∀ i j, i < j → j < K → ltP (D i) (D j)) :
    ∃ FA FB : Nat → Nat, (∀ i, i < K → FA i < m ∧ FB i < m ∧ D i = (U (FA i), U (FB i))) ∧ Kh.Gr A m K (Tj.stOf FA K) FB := by
  have h1 : ∀ i, ∃ ab : Nat × Nat, i < K → ab.1 < m ∧ ab.2 < m ∧ D i = (U ab.1, U ab.2) := fun i => by
    by_cases hi : i < K
    · obtain ⟨i', hi', e⟩ := (hmem (D i)).1 ⟨i, hi, rfl⟩
      obtain ⟨a1, a2, a3⟩ := hxy i' hi'
      exact ⟨(x i', y i'), fun _ => ⟨a1, a2, by rw [← e, a3]⟩⟩
    · exact ⟨(0, 0), fun h => absurd h hi⟩
  obtain ⟨f, hf⟩ := Classical.axiomOfChoice h1
  refine ⟨fun i => (f i).1, fun i => (f i).2, hf, Kh.gr_of (fun i hi => (hf i hi).1) (fun i hi => (hf i hi).2.1) (fun i j hij hj => ?_) (fun v u => ?_)⟩
  · obtain ⟨a1, a2, a3⟩ := hf i (by omega)
    obtain ⟨b1, b2, b3⟩ := hf j hj
    have h := hinc i j hij hj
    rw [a3, b3] at h
    rcases h with h | ⟨h, h'⟩
    · exact Or.inl (hu.lt a1 b1 h)
    · exact Or.inr ⟨hu.inj a1 b1 h, hu.lt a2 b2 h'⟩
  · rw [hA]
    constructor
    · rintro ⟨i', hi', rfl, rfl⟩
      obtain ⟨a1, a2, a3⟩ := hxy i' hi'
      obtain ⟨i, hi, e⟩ := (hmem (E0 i')).2 ⟨i', hi', rfl⟩
      obtain ⟨b1, b2, b3⟩ := hf i hi
      rw [b3, a3] at e
      have e1 := congrArg Prod.fst e
      have e2 := congrArg Prod.snd e
      exact ⟨i, hi, hu.inj b1 a1 e1, hu.inj b2 a2 e2⟩
    · rintro ⟨i, hi, rfl, rfl⟩
      obtain ⟨b1, b2, b3⟩ := hf i hi
      obtain ⟨i', hi', e⟩ := (hmem (D i)).1 ⟨i, hi, rfl⟩
      obtain ⟨a1, a2, a3⟩ := hxy i' hi'
      rw [b3, a3] at e
      have e1 := congrArg Prod.fst e
      have e2 := congrArg Prod.snd e
      exact ⟨i', hi', hu.inj a1 b1 e1, hu.inj a2 b2 e2⟩

set_option maxRecDepth 100000 in
set_option maxHeartbeats 6400000 in
theorem newGraph_any (A : Nat → Nat → Bool) (zs : List Int) (pn : Option Addr) (cn bE cE nE m : Nat) (E0 : Nat → Int × Int) (x y : Nat → Nat) (w : World) (hz : zs.length ≤ 512) (hm : m = (uList zs).length) (hu : UOk (uN zs) m)
    (hI : It.Ints w.heap.size w (.slice pn zs.length cn) zs) (hE : ERow bE nE E0 w) (hbE : bE < w.heap.size) (hnE : nE ≤ 1024) (hxy : ∀ i, i < nE → x i < m ∧ y i < m ∧ E0 i = (uN zs (x i), uN zs (y i))) (hA : ∀ v u, A v u = true ↔ ∃ i, i < nE ∧ x i = v ∧ y i = u) :
    Calls Yba.prog 15 #[.slice pn zs.length cn, .slice (some ⟨bE, 0, none⟩) nE cE] w fun e w' => NGRes A m nE (uN zs) w e w' := by
  have HI : Hid (It.Ints w.heap.size w (.slice pn zs.length cn) zs) := hI
  have HE : Hid (ERow bE nE E0 w) := hE
  have HXY : Hid (∀ i, i < nE → x i < m ∧ y i < m ∧ E0 i = (uN zs (x i), uN zs (y i))) := hxy
  have HA : Hid (∀ v u, A v u = true ↔ ∃ i, i < nE ∧ x i = v ∧ y i = u) := hA
  have HU : Hid (UOk (uN zs) m) := hu
  have HMd : Hid (m = (uList zs).length) := hm
  have hm5 : m ≤ 512 := by have := uList_len zs; omega
  clear hI hE hxy hA hu hm
  go_enter Yba.func15, Yba.ntmps15
  go_upto_region 1 with fail
  go_upto_region 2 with (first
    | (go_at_call 23; refine (values_any _ _ _ _).mono ?_; rintro e w1 ⟨rfl, hw1⟩
       have hb1 : Below w.heap.size w w1 := (by rw [hw1]; exact (Below.refl _ _).alloc (Nat.le_refl _) _)
       have hs1 : w1.heap.size = w.heap.size + 1 := (by rw [hw1]; simp)
       have hc1 : w1.cell? ⟨w.heap.size, 0, none⟩ = some (.slice pn zs.length cn) := (by rw [hw1]; exact (Blk.new _ _ _).one)
       have HB1 : Hid _ := hb1
       have HS1 : Hid _ := hs1
       have HC1 : Hid _ := hc1
       clear hw1 hb1 hs1 hc1)
    | (go_at_call 22; refine (sorted_any w.heap.size w.heap.size _ zs (by omega) _ (by rw [HS1.out]; omega) (by rw [HS1.out]; omega) HC1.out (HI.out.below HB1.out)).mono ?_; rintro e w2 ⟨v2, rfl, hrow2, _, hb2⟩
       have HR2 : Hid _ := hrow2
       have HB2 : Hid _ := hb2
       clear hrow2 hb2)
    | (go_at_call 14; refine (compactN_own w1.heap.size m v2 zs _ HMd.out HR2.out (by omega) HB2.out.size).mono ?_; rintro e w3 ⟨pN, cN, bN, rfl, hN3, hbN3, hb3⟩
       have HN3 : Hid _ := hN3
       have HBN3 : Hid _ := hbN3
       have HB3 : Hid _ := hb3
       have HBe3 : Hid (Below w.heap.size w w3) := ((HB1.out.trans (HB2.out.mono (by rw [HS1.out]; omega))).trans (hb3.mono (by rw [HS1.out]; omega)))
       clear hN3 hbN3 hb3)
    | (go_at_call 24; refine (cloneE_own bE nE cE E0 _ (by omega) (HE.out.below HBe3.out hbE)).mono ?_; rintro e w4 ⟨gE, capE, rfl, hE4, hcap4, hg4, hlt4, hb4⟩
       have HE4 : Hid _ := hE4
       have HB4 : Hid _ := hb4
       clear hE4 hb4))
  have hNM : NM w.heap.size m bN gE w4.heap.size pN (uN zs) nE E0 #[.slice pN m cN, .slice (some ⟨gE, 0, none⟩) nE capE, .slice none 0 0, .slice none 0 0] w (w4.alloc (.cells #[.slice pN m cN, .slice (some ⟨gE, 0, none⟩) nE capE, .slice none 0 0, .slice none 0 0] 55)) := by
    have q1 := HS1.out
    have q3 := HB3.out.size
    have q4 := HB4.out.size
    have q2 := HB2.out.size
    have hb5 : Below w4.heap.size w4 (w4.alloc (.cells #[.slice pN m cN, .slice (some ⟨gE, 0, none⟩) nE capE, .slice none 0 0, .slice none 0 0] 55)) := (Below.refl _ _).alloc (Nat.le_refl _) _
    refine ⟨(HBe3.out.trans (HB4.out.mono (by omega))).trans (hb5.mono (by omega)), fun i hi => ⟨(HN3.out i hi).1, ?_⟩, ERow.below HE4.out hb5 hlt4, Blk.new _ _ _, fun h => ?_, by omega, hlt4⟩
    · have := (HBN3.out (by omega)).2
      rw [hb5.cell (by show bN < w4.heap.size; omega), HB4.out.cell (by show bN < w3.heap.size; omega)]
      exact (HN3.out i hi).2
    · have := HBN3.out h
      omega
  have HNM : Hid (NM w.heap.size m bN gE w4.heap.size pN (uN zs) nE E0 #[.slice pN m cN, .slice (some ⟨gE, 0, none⟩) nE capE, .slice none 0 0, .slice none 0 0] w (w4.alloc (.cells #[.slice pN m cN, .slice (some ⟨gE, 0, none⟩) nE capE, .slice none 0 0, .slice none 0 0] 55))) := hNM
  clear hNM HB1 HS1 HC1 HR2 HB2 HN3 HBN3 HB3 HBe3 HE4 HB4 hg4 hlt4
  generalize w4.alloc (.cells #[.slice pN m cN, .slice (some ⟨gE, 0, none⟩) nE capE, .slice none 0 0, .slice none 0 0] 55) = w5 at HNM ⊢
  generalize w4.heap.size = bg at HNM ⊢
  clear HI HE HMd
  have c1 : w5.cell? ⟨bg, 1, none⟩ = some (.slice (some ⟨gE, 0, none⟩) nE capE) := by rw [HNM.out.gb.cell]; rfl
  go_upto_region 4 with (first
    | (go_at_call 25; refine (sortE_own gE capE nE E0 _ HNM.out.er (by have := HNM.out.h3; have := HNM.out.sz; omega) (by omega)).mono ?_; rintro e w6 ⟨rfl, D1, hM6, hs6, hm6⟩
       have hN6 := HNM.out.edges hM6
       have c16 : w6.cell? ⟨bg, 1, none⟩ = some (.slice (some ⟨gE, 0, none⟩) nE capE) := (by rw [hN6.gb.cell]; rfl)
       have HN6 : Hid _ := hN6
       have HS6 : Hid _ := hs6
       have HM6 : Hid _ := hm6
       clear hN6 hM6 hs6 hm6)
    | (go_at_call 29; refine (compE_any gE nE capE D1 _ (by omega) hcap4 HN6.out.er HS6.out).mono ?_; rintro e w7 ⟨K, D, rfl, hKn, hM7, hinc7, hmem7⟩
       have hN7 := HN6.out.edges hM7
       have c17 : w7.cell? ⟨bg, 1, none⟩ = some (.slice (some ⟨gE, 0, none⟩) nE capE) := (by rw [hN7.gb.cell]; rfl)
       have f17 : w7.frozen? ⟨bg, 1, none⟩ = false := hN7.gb.free _
       have HN7 : Hid _ := hN7
       have HInc : Hid _ := hinc7
       have HMem : Hid _ := hmem7
       clear hN7 hM7 hinc7 hmem7))
  obtain ⟨FA, FB, hF, hGr⟩ := idx_of HU.out HXY.out HA.out (fun p => (HMem.out p).trans (HM6.out p)) HInc.out
  have HF : Hid (∀ i, i < K → FA i < m ∧ FB i < m ∧ D i = (uN zs (FA i), uN zs (FB i))) := hF
  have HGr : Hid (Kh.Gr A m K (Tj.stOf FA K) FB) := hGr
  have HN8 : Hid (NM w.heap.size m bN gE bg pN (uN zs) K D #[.slice pN m cN, .slice (some ⟨gE, 0, none⟩) K capE, .slice none 0 0, .slice none 0 0] w (w7.setCell ⟨bg, 1, none⟩ (.slice (some ⟨gE, 0, none⟩) K capE))) := HN7.out.field 1 _
  clear hF hGr HMem HM6 HInc HXY HA HNM HN6 HS6 HN7 c1 c16 c17 f17 hcap4
  generalize w7.setCell ⟨bg, 1, none⟩ (.slice (some ⟨gE, 0, none⟩) K capE) = w8 at HN8 ⊢
  generalize hUe : uN zs = U at HU HN8 HF ⊢
  have HUe : Hid (uN zs = U) := hUe
  clear hUe
  have c0 : w8.cell? ⟨bg, 0, none⟩ = some (.slice pN m cN) := by rw [HN8.out.gb.cell]; rfl
  have hmm := make_map
  have hbgs := HN8.out.sz
  go_wp2
  clear c0 hmm
  have HMx9 : Hid (MapIx U w8.heap.size 0 (w8.alloc (.map #[] 0))) := MapIx.made U w8
  have HB9 : Hid (Below w8.heap.size w8 (w8.alloc (.map #[] 0))) := (Below.refl _ _).alloc (Nat.le_refl _) _
  generalize w8.alloc (.map #[] 0) = w9 at HMx9 HB9 ⊢
  generalize w8.heap.size = bm at HMx9 HB9 hbgs ⊢
  go_loopg [44] m (fun gk x wr => ∃ k : Nat, k ≤ m ∧ gk + k = m ∧ x = .int .i64 (k : Int) ∧ MapIx U bm k wr ∧ Below bm w8 wr)
  case atStart => exact ⟨0, Nat.zero_le _, rfl, rfl, HMx9.out, HB9.out⟩
  case round =>
    clear HMx9 HB9
    obtain ⟨k, hk, hgk, rfl, hMx, hBw⟩ := hrel
    have HMx : Hid (MapIx U bm k wr) := hMx
    have HBw : Hid (Below bm w8 wr) := hBw
    have HN9 : Hid _ := HN8.out.keep hBw hbgs
    clear hMx hBw
    by_cases hkl : k < m
    · have hki : (k : Int) < (m : Int) := by omega
      obtain ⟨rfl, hc⟩ := HN9.out.nd k hkl
      obtain ⟨w', hrun, hx1, hx2, hx3⟩ := HMx.out.update HU.out hkl (by omega)
      have HX1 : Hid _ := hx1
      have HX2 : Hid _ := hx2
      clear hx1 hx2 hx3
      go_wp2
      go_roundg (gk - 1)
      case measure => omega
      case rel => exact ⟨k + 1, by omega, by omega, by go_num, HX1.out, HBw.out.grown HX2.out (by have := HMx.out.lt; omega) (fun z hz => by cases hz; exact Nat.le_refl _)⟩
    · obtain rfl : m = k := by omega
      have hki : ¬ (m : Int) < (m : Int) := by omega
      clear hkl hgk
      have c0 : wr.cell? ⟨bg, 0, none⟩ = some (.slice pN m cN) := by rw [HN9.out.gb.cell]; rfl
      have c2 : wr.cell? ⟨bg, 2, none⟩ = some (.slice none 0 0) := by rw [HN9.out.gb.cell]; rfl
      have f2 : wr.frozen? ⟨bg, 2, none⟩ = false := HN9.out.gb.free _
      have hmk := fun W => run_make_row' (P := Yba.prog) 26 3 (.int .i64 0) 8 Yba.underlying26 info3 rfl .i64 .i64 (m + 1) (by omega) (by omega) W
      simp only [Int.natCast_add, Int.natCast_one] at hmk
      have hbgw : ¬ bg = wr.heap.size := by have := HN9.out.sz; omega
      have c2a : ∀ o, (wr.alloc o).cell? ⟨bg, 2, none⟩ = some (.slice none 0 0) := fun o => by rw [(HN9.out.gb.alloc o).cell]; rfl
      have f2a : ∀ o, (wr.alloc o).frozen? ⟨bg, 2, none⟩ = false := fun o => (HN9.out.gb.alloc o).free _
      go_upto_region 11 with fail
      clear c0 c2 f2 hmk c2a f2a
      have hbmw := HMx.out.lt
      have HN10 : Hid (NM w.heap.size m bN gE bg pN U K D #[.slice pN m cN, .slice (some ⟨gE, 0, none⟩) K capE, .slice (some ⟨wr.heap.size, 0, none⟩) (m + 1) (m + 1), .slice none 0 0] w ((wr.alloc (.cells (madeCells #[.int .i64 0] (m + 1)) 3)).setCell ⟨bg, 2, none⟩ (.slice (some ⟨wr.heap.size, 0, none⟩) (m + 1) (m + 1)))) :=
        (HN9.out.keep ((Below.refl _ wr).alloc (Nat.le_refl _) _) HN9.out.sz).field 2 _
      have HMx10 : Hid (MapIx U bm m ((wr.alloc (.cells (madeCells #[.int .i64 0] (m + 1)) 3)).setCell ⟨bg, 2, none⟩ (.slice (some ⟨wr.heap.size, 0, none⟩) (m + 1) (m + 1)))) := (HMx.out.alloc _).other (by show bm ≠ bg; omega) _
      have HS10 : Hid (Blk ((wr.alloc (.cells (madeCells #[.int .i64 0] (m + 1)) 3)).setCell ⟨bg, 2, none⟩ (.slice (some ⟨wr.heap.size, 0, none⟩) (m + 1) (m + 1))) wr.heap.size 3 (lints (m + 1) (Tj.c2 FA 0))) := by
        rw [Tj.c2_zero, ← made_lints]
        exact (Blk.new _ _ _).other (by show wr.heap.size ≠ bg; omega) _
      clear HMx HBw HN9 HN8
      generalize (wr.alloc (.cells (madeCells #[.int .i64 0] (m + 1)) 3)).setCell ⟨bg, 2, none⟩ (.slice (some ⟨wr.heap.size, 0, none⟩) (m + 1) (m + 1)) = w10 at HN10 HMx10 HS10 ⊢
      generalize wr.heap.size = bS at HN10 HS10 hbmw hbgw ⊢
      have c1 : w10.cell? ⟨bg, 1, none⟩ = some (.slice (some ⟨gE, 0, none⟩) K capE) := by rw [HN10.out.gb.cell]; rfl
      have c3 : w10.cell? ⟨bg, 3, none⟩ = some (.slice none 0 0) := by rw [HN10.out.gb.cell]; rfl
      have f3 : w10.frozen? ⟨bg, 3, none⟩ = false := HN10.out.gb.free _
      have hbgw2 : ¬ bg = w10.heap.size := by have := HN10.out.sz; omega
      have c3a : ∀ o, (w10.alloc o).cell? ⟨bg, 3, none⟩ = some (.slice none 0 0) := fun o => by rw [(HN10.out.gb.alloc o).cell]; rfl
      have f3a : ∀ o, (w10.alloc o).frozen? ⟨bg, 3, none⟩ = false := fun o => (HN10.out.gb.alloc o).free _
      have hmx := fun W => run_make_row' (P := Yba.prog) 23 21 (.int .i32 0) 4 Yba.underlying23 info21 rfl .i64 .i64 K (by omega) (by omega) W
      go_upto_region 12 with fail
      clear c1 c3 f3 hmx c3a f3a
      have hSlt := HS10.out.lt
      have HN11 : Hid (NM w.heap.size m bN gE bg pN U K D #[.slice pN m cN, .slice (some ⟨gE, 0, none⟩) K capE, .slice (some ⟨bS, 0, none⟩) (m + 1) (m + 1), .slice (some ⟨w10.heap.size, 0, none⟩) K K] w ((w10.alloc (.cells (madeCells #[.int .i32 0] K) 21)).setCell ⟨bg, 3, none⟩ (.slice (some ⟨w10.heap.size, 0, none⟩) K K))) :=
        (HN10.out.keep ((Below.refl _ w10).alloc (Nat.le_refl _) _) HN10.out.sz).field 3 _
      have HMx11 : Hid (MapIx U bm m ((w10.alloc (.cells (madeCells #[.int .i32 0] K) 21)).setCell ⟨bg, 3, none⟩ (.slice (some ⟨w10.heap.size, 0, none⟩) K K))) := (HMx10.out.alloc _).other (by show bm ≠ bg; omega) _
      have HS11 : Hid (Blk ((w10.alloc (.cells (madeCells #[.int .i32 0] K) 21)).setCell ⟨bg, 3, none⟩ (.slice (some ⟨w10.heap.size, 0, none⟩) K K)) bS 3 (lints (m + 1) (Tj.c2 FA 0))) := (HS10.out.alloc _).other (by show bS ≠ bg; omega) _
      have HX11 : Hid (Blk ((w10.alloc (.cells (madeCells #[.int .i32 0] K) 21)).setCell ⟨bg, 3, none⟩ (.slice (some ⟨w10.heap.size, 0, none⟩) K K)) w10.heap.size 21 (ints K (fun _ => 0))) := by
        rw [← made_ints]
        exact (Blk.new _ _ _).other (by show w10.heap.size ≠ bg; omega) _
      clear HMx10 HN10 HS10
      generalize (w10.alloc (.cells (madeCells #[.int .i32 0] K) 21)).setCell ⟨bg, 3, none⟩ (.slice (some ⟨w10.heap.size, 0, none⟩) K K) = w11 at HN11 HMx11 HS11 HX11 ⊢
      generalize w10.heap.size = bX at HN11 HX11 hbgw2 hSlt ⊢
      have c1 : w11.cell? ⟨bg, 1, none⟩ = some (.slice (some ⟨gE, 0, none⟩) K capE) := by rw [HN11.out.gb.cell]; rfl
      go_wp2
      clear c1
      have HL0 : Hid (LM w.heap.size m bN gE bg bm bS bX pN cN capE U K D (Tj.c2 FA 0) (fX FB 0) w w11) := ⟨HN11.out, HMx11.out, HS11.out, by rw [show fX FB 0 = fun _ => 0 from by funext i; simp [fX]]; exact HX11.out, hbgs, hbmw, hSlt⟩
      clear HN11 HMx11 HS11 HX11
      go_loopg [80] K (fun gk x wr => ∃ k : Nat, k ≤ K ∧ gk + k = K ∧ x = .int .i64 (k : Int) ∧ LM w.heap.size m bN gE bg bm bS bX pN cN capE U K D (Tj.c2 FA k) (fX FB k) w wr)
      case atStart => exact ⟨0, Nat.zero_le _, rfl, rfl, HL0.out⟩
      case round =>
        clear HL0
        obtain ⟨k, hkK, hgk, rfl, hL⟩ := hrel
        have HL : Hid (LM w.heap.size m bN gE bg bm bS bX pN cN capE U K D (Tj.c2 FA k) (fX FB k) w wr) := hL
        by_cases hkl : k < K
        · have hki : (k : Int) < (K : Int) := by omega
          obtain ⟨d1, d2, _, _⟩ := hL.nm.er k hkl
          obtain ⟨hFA, hFB, hD⟩ := HF.out k hkl
          rw [hD] at d1 d2
          clear hL hD
          go_upto_region 15 with fail
          clear d1 d2
          have HLE : Hid (LM w.heap.size m bN gE bg bm bS bX pN cN capE U K D (Tj.c2 FA k) (fX FB k) w (wr.alloc (.cells #[.int .i64 (U (FA k)), .int .i64 (U (FB k))] 52))) := HL.out.keep ((Below.refl _ _).alloc (Nat.le_refl _) _)
          have HBE : Hid (Blk (wr.alloc (.cells #[.int .i64 (U (FA k)), .int .i64 (U (FB k))] 52)) wr.heap.size 52 #[.int .i64 (U (FA k)), .int .i64 (U (FB k))]) := Blk.new _ _ _
          have hbe : bX < wr.heap.size := HL.out.xb.lt
          clear HL
          generalize wr.alloc (.cells #[.int .i64 (U (FA k)), .int .i64 (U (FB k))] 52) = wE at HLE HBE ⊢
          generalize wr.heap.size = be at HBE hbe ⊢
          have e0 : wE.cell? ⟨be, 0, none⟩ = some (.int .i64 (U (FA k))) := by rw [HBE.out.cell]; rfl
          have c2 : wE.cell? ⟨bg, 2, none⟩ = some (.slice (some ⟨bS, 0, none⟩) (m + 1) (m + 1)) := by rw [HLE.out.nm.gb.cell]; rfl
          have hl1 : (Instr.lookup 83 (.map (some bm)) (.int .i64 (U (FA k))) false).run Yba.prog wE.drew = .ok (.int .i32 (FA k : Int)) wE.drew := HLE.out.mx.drew.look HU.out hFA hFA
          have s1 : wE.cell? ⟨bS, FA k + 1, none⟩ = some (.int .i64 (Tj.c2 FA k (FA k + 1) : Int)) := by rw [HLE.out.sb.cell, lints_at _ _ _ (by omega)]
          have g1 : wE.frozen? ⟨bS, FA k + 1, none⟩ = false := HLE.out.sb.free _
          have hz : Tj.c2 FA k (FA k + 1) ≤ 1024 := by
            have := Tj.cnt_le FA (FA k) k
            show (if FA k + 1 = 0 then 0 else Tj.cnt FA k (FA k + 1 - 1)) ≤ 1024
            rw [if_neg (by omega), Nat.add_sub_cancel]
            omega
          have hLF : LM w.heap.size m bN gE bg bm bS bX pN cN capE U K D (Tj.c2 FA (k + 1)) (fX FB k) w (wE.setCell ⟨bS, FA k + 1, none⟩ (.int .i64 ((Tj.c2 FA k (FA k + 1) + 1 : Nat) : Int))).drew := by
            rw [← Tj.c2_step]
            exact (HLE.out.setS _ _).keep ((Below.refl _ _).drew)
          rw [Int.natCast_add, Int.natCast_one] at hLF
          have HLF : Hid (LM w.heap.size m bN gE bg bm bS bX pN cN capE U K D (Tj.c2 FA (k + 1)) (fX FB k) w (wE.setCell ⟨bS, FA k + 1, none⟩ (.int .i64 ((Tj.c2 FA k (FA k + 1) : Int) + 1))).drew) := hLF
          have e1 : (wE.setCell ⟨bS, FA k + 1, none⟩ (.int .i64 ((Tj.c2 FA k (FA k + 1) : Int) + 1))).drew.cell? ⟨be, 1, none⟩ = some (.int .i64 (U (FB k))) := by
            show (wE.setCell ⟨bS, FA k + 1, none⟩ (.int .i64 ((Tj.c2 FA k (FA k + 1) : Int) + 1))).cell? ⟨be, 1, none⟩ = _
            rw [World.cell?_setCell_far _ _ _ _ (by show bS ≠ be; have := HLE.out.k3; omega), HBE.out.cell]
            rfl
          generalize Tj.c2 FA k (FA k + 1) = z at s1 hz HLF e1
          clear hLF HLE HBE
          have hFAi : (FA k : Int) < (m : Int) := by omega
          have hFAi2 : (FA k : Int) + 1 < (m : Int) + 1 := by omega
          go_region
          clear e0 c2 hl1 s1 g1
          generalize (wE.setCell ⟨bS, FA k + 1, none⟩ (.int .i64 ((z : Int) + 1))).drew = wF at HLF e1 ⊢
          have c3 : wF.cell? ⟨bg, 3, none⟩ = some (.slice (some ⟨bX, 0, none⟩) K K) := by rw [HLF.out.nm.gb.cell]; rfl
          have hl2 : (Instr.lookup 83 (.map (some bm)) (.int .i64 (U (FB k))) false).run Yba.prog wF.drew = .ok (.int .i32 (FB k : Int)) wF.drew := HLF.out.mx.drew.look HU.out hFB hFB
          have x1 : wF.cell? ⟨bX, k, none⟩ = some (.int .i32 (fX FB k k : Int)) := by rw [HLF.out.xb.cell, ints_at _ _ _ hkl]
          have g2 : wF.frozen? ⟨bX, k, none⟩ = false := HLF.out.xb.free _
          have HLG : Hid (LM w.heap.size m bN gE bg bm bS bX pN cN capE U K D (Tj.c2 FA (k + 1)) (fX FB (k + 1)) w (wF.setCell ⟨bX, k, none⟩ (.int .i32 (FB k : Int))).drew) := by
            rw [← fX_step]
            exact (HLF.out.setX _ _).keep ((Below.refl _ _).drew)
          generalize fX FB k k = z2 at x1
          clear HLF
          go_wp2
          go_region
          clear e1 c3 hl2 x1 g2
          generalize (wF.setCell ⟨bX, k, none⟩ (.int .i32 (FB k : Int))).drew = wG at HLG ⊢
          go_wp2
          go_roundg (gk - 1)
          case measure => omega
          case rel => exact ⟨k + 1, by omega, by omega, by go_num, HLG.out⟩
        · obtain rfl : K = k := by omega
          have hki : ¬ (K : Int) < (K : Int) := by omega
          have HL1 : Hid (LM w.heap.size m bN gE bg bm bS bX pN cN capE U K D (Tj.c3 FA K 0) (fX FB K) w wr) := by rw [Tj.c3_zero]; exact hL
          have c0 : wr.cell? ⟨bg, 0, none⟩ = some (.slice pN m cN) := by rw [hL.nm.gb.cell]; rfl
          clear HL hL hgk hkl
          go_wp2
          clear c0
          go_loopg [116] m (fun gk x wr => ∃ j : Nat, j ≤ m ∧ gk + j = m ∧ x = .int .i64 (j : Int) ∧ LM w.heap.size m bN gE bg bm bS bX pN cN capE U K D (Tj.c3 FA K j) (fX FB K) w wr)
          case atStart => exact ⟨0, Nat.zero_le _, rfl, rfl, HL1.out⟩
          case round =>
            clear HL1
            obtain ⟨j, hj, hgk, rfl, hL⟩ := hrel
            have HL : Hid (LM w.heap.size m bN gE bg bm bS bX pN cN capE U K D (Tj.c3 FA K j) (fX FB K) w wr) := hL
            by_cases hjl : j < m
            · have hji : (j : Int) < (m : Int) := by omega
              have hji2 : (j : Int) + 1 < (m : Int) + 1 := by omega
              have hji3 : (j : Int) < (m : Int) + 1 := by omega
              have c2 : wr.cell? ⟨bg, 2, none⟩ = some (.slice (some ⟨bS, 0, none⟩) (m + 1) (m + 1)) := by rw [hL.nm.gb.cell]; rfl
              have d1 : wr.cell? ⟨bS, j + 1, none⟩ = some (.int .i64 (Tj.c3 FA K j (j + 1) : Int)) := by rw [hL.sb.cell, lints_at _ _ _ (by omega)]
              have d2 : wr.cell? ⟨bS, j, none⟩ = some (.int .i64 (Tj.c3 FA K j j : Int)) := by rw [hL.sb.cell, lints_at _ _ _ (by omega)]
              have f1 : wr.frozen? ⟨bS, j + 1, none⟩ = false := hL.sb.free _
              have hz1 : Tj.c3 FA K j (j + 1) ≤ 1024 := by
                show (if j + 1 ≤ j then Tj.stOf FA K (j + 1) else if j + 1 = 0 then 0 else Tj.cnt FA K (j + 1 - 1)) ≤ 1024
                rw [if_neg (by omega), if_neg (by omega), Nat.add_sub_cancel]
                have := Tj.cnt_le FA j K
                omega
              have hz2 : Tj.c3 FA K j j ≤ 1024 := by
                rw [Tj.c3_last FA K j j (Nat.le_refl _)]
                have := Kh.stOf_le' FA j K
                omega
              have hL2 : LM w.heap.size m bN gE bg bm bS bX pN cN capE U K D (Tj.c3 FA K (j + 1)) (fX FB K) w (wr.setCell ⟨bS, j + 1, none⟩ (.int .i64 ((Tj.c3 FA K j (j + 1) + Tj.c3 FA K j j : Nat) : Int))).drew := by
                rw [← Tj.c3_step]
                exact (hL.setS _ _).keep ((Below.refl _ _).drew)
              rw [Int.natCast_add] at hL2
              have HL2 : Hid (LM w.heap.size m bN gE bg bm bS bX pN cN capE U K D (Tj.c3 FA K (j + 1)) (fX FB K) w (wr.setCell ⟨bS, j + 1, none⟩ (.int .i64 ((Tj.c3 FA K j (j + 1) : Int) + (Tj.c3 FA K j j : Int)))).drew) := hL2
              generalize Tj.c3 FA K j (j + 1) = z1 at d1 hz1 HL2
              generalize Tj.c3 FA K j j = z2 at d2 hz2 HL2
              have hSg : ¬ bS = bg := by have := hL.k1; have := hL.k2; omega
              clear hL hL2 HL
              go_wp2
              go_region
              generalize (wr.setCell ⟨bS, j + 1, none⟩ (.int .i64 ((z1 : Int) + (z2 : Int)))).drew = wG at HL2 ⊢
              clear c2 d1 d2 f1
              go_wp2
              go_roundg (gk - 1)
              case measure => omega
              case rel => exact ⟨j + 1, by omega, by omega, by go_num, HL2.out⟩
            · obtain rfl : m = j := by omega
              have hji : ¬ (m : Int) < (m : Int) := by omega
              clear hL hgk hjl
              go_wp2
              go_ret
              have hL := HL.out
              have hsz := hL.nm.sz
              have hnd : ∀ i, i < m → pN = some ⟨bN, 0, none⟩ ∧ wr.cell? ⟨bN, i, none⟩ = some (.int .i64 (uN zs i)) := by rw [HUe.out]; exact hL.nm.nd
              refine ⟨bg, K, Tj.stOf FA K, FB, bS, bX, bN, pN, cN, .slice (some ⟨gE, 0, none⟩) K capE, rfl, hKn, ⟨hL.nm.gb, fun i hi => ?_, fun c hc => ?_, hnd, hL.sb.lt, hL.xb.lt, fun h => ?_⟩, HGr.out, hL.nm.bel⟩
              · rw [hL.sb.cell, lints_at _ _ _ (by omega), Tj.c3_last FA K m i hi]
              · rw [hL.xb.cell, ints_at _ _ _ hc]
                simp [fX, hc]
              · have := hL.nm.h1 h
                have := hL.nm.h3
                omega

end Go.Proofs.Ybulkcnjc
