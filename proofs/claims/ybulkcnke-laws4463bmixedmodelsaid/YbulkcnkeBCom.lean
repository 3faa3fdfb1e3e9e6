/-
  committedAtStart's closure.
-/
import Derived.Test.YbulkcnkeBFoldB
namespace Go.Proofs.Ybulkcnke
open Go.RowKit Go.Maps
set_option linter.unusedVariables false
attribute [local go_sem ↓] Go.wp_at_zero Go.wp_at_succ

theorem owns_below {base : Nat} {e : TypeId} {size : Nat} {v : Value} {n : Nat} {xs : List Value} {w w1 : World} (h : w.ownsRow base e size v n xs) (hb : Below w.heap.size w w1) : w1.ownsRow base e size v n xs := by
  cases hv : v.ownBlock with
  | none => exact h.kept (row := none) ⟨hb.os, hb.tape, hb.output, hb.size, fun k hk _ => hb.block k hk⟩ (Or.inl hv)
  | some k => exact h.kept (row := none) ⟨hb.os, hb.tape, hb.output, hb.size, fun k hk _ => hb.block k hk⟩ (Or.inr (by simp [hv]))

theorem map_ne_row {w : World} {m : Nat} {f : Nat → Option Value} (h : MapIs w m f) {base : Nat} {e : TypeId} {size : Nat} {v : Value} {n : Nat} {xs : List Value} (hr : w.ownsRow base e size v n xs) : some m ≠ v.ownBlock := by
  obtain ⟨D, ⟨es, clock, hb, _⟩, _⟩ := h
  obtain ⟨_, h2⟩ := hr
  intro e
  rcases h2 with ⟨rfl, _⟩ | ⟨g, _, _, rfl, _, hg, _⟩
  · simp [Value.ownBlock] at e
  · simp only [Value.ownBlock, Option.some.injEq] at e
    subst e
    rw [hb] at hg
    simp at hg

def mrow (mb : Nat → Nat) (k : Nat) : List Value := (List.range k).map (fun j => Value.map (some (mb j)))
theorem mrow_snoc (mb : Nat → Nat) (k b : Nat) : mrow mb k ++ [.map (some b)] = mrow (fun j => if j = k then b else mb j) (k + 1) := by
  unfold mrow
  rw [List.range_succ, List.map_append, List.map_singleton]
  simp only [if_pos]
  congr 1
  exact List.map_congr_left (fun j hj => by rw [if_neg (by have := List.mem_range.1 hj; omega)])
theorem mrow_at (mb : Nat → Nat) (k i : Nat) (h : i < k) : (mrow mb k)[i]? = some (.map (some (mb i))) := by simp [mrow, h]

/-- the leads, as far as they are built -/
structure LRows (B : Nat) (k : Nat) (F : Nat → Nat → Bool) (mb : Nat → Nat) (lv : Value) (w : World) : Prop where
  row : w.ownsRow B 61 1 lv k (mrow mb k)
  map : ∀ j, j < k → MapIs w (mb j) (sF (F j))
  sz : B ≤ w.heap.size

theorem LRows.form {B k : Nat} {F : Nat → Nat → Bool} {mb : Nat → Nat} {lv : Value} {w : World} (h : LRows B k F mb lv w) : ∃ la cap, lv = .slice la k cap ∧ Leads la k F w := by
  by_cases hm : 0 < k
  · obtain ⟨lb, cap, rfl, hb, hlt⟩ := h.row.form hm
    have hc := h.row.cells (g := lb) rfl
    have add : ∀ j, (⟨lb, 0, none⟩ : Addr).add j = ⟨lb, j, none⟩ := by intro j; unfold Addr.add; split <;> simp_all
    refine ⟨_, cap, rfl, lb, fun j hj => ⟨rfl, mb j, ?_, h.map j hj⟩⟩
    have e := hc j _ (mrow_at mb k j hj)
    rw [add] at e
    exact e
  · obtain rfl : k = 0 := by omega
    rcases h.row.2 with ⟨h1, _⟩ | ⟨g', cap', cur, h1, _⟩
    · exact ⟨none, 0, h1, 0, fun j hj => absurd hj (Nat.not_lt_zero _)⟩
    · exact ⟨_, cap', h1, 0, fun j hj => absurd hj (Nat.not_lt_zero _)⟩

theorem info61 : (Yba.prog.info? 61).map (fun i => (i.zero, i.size, i.bytes)) = some (some (.map none), 1, 8) := by kernel_rfl

/-- the lead of a step -/
def ldF (su : Nat → Nat → Bool) (a c : Nat) : Bool := decide (c = a) || su a c
/-- what a step is sure of -/
def suF (p : Pr) (sk : Nat → Bool) (su : Nat → Nat → Bool) (i c : Nat) : Bool :=
  (p.aft i).any (fun a => ldF su a c && (decide (p.jn i = 0) || !sk a)) || (!(p.aft i).isEmpty && (p.aft i).all (fun a => ldF su a c))

def XM (p : Pr) (sk : Nat → Bool) (bS mS : Nat) (w : World) : Prop := w.cell? ⟨bS, 0, none⟩ = some (.map (some mS)) ∧ MapIs w mS (fun j => if j < p.n then some (.bool (sk j)) else none)

def ComRes (w : World) (S : Nat → Bool) (e : Ending) (w' : World) : Prop := ∃ m, e = .returned (.map (some m)) ∧ w.heap.size ≤ m ∧ MapIs w' m (sF S) ∧ Below w.heap.size w w'

theorem Reads.congr {D : DataW Value} {f f' : Nat → Option Value} (h : Reads D f) (e : ∀ i, i < 48 → f i = f' i) : Reads D f' := by
  refine ⟨h.keys, fun i hi => by rw [← e i hi]; exact h.dom i hi, fun i v hi hv => h.at_ i v hi (by rw [e i hi]; exact hv), ?_⟩
  rw [h.size]
  unfold cntF
  exact List.countP_congr (fun i hi => by rw [e i (List.mem_range.1 hi)])
theorem MapIs.congr {w : World} {b : Nat} {f f' : Nat → Option Value} (h : MapIs w b f) (e : ∀ i, i < 48 → f i = f' i) : MapIs w b f' := let ⟨D, h, hr⟩ := h; ⟨D, h, hr.congr e⟩
theorem MapIs.sF {w : World} {b : Nat} {F F' : Nat → Bool} (h : MapIs w b (sF F)) (e : ∀ i, i < 48 → F i = F' i) : MapIs w b (sF F') := h.congr (fun i hi => by unfold Ybulkcnke.sF; rw [e i hi])

theorem upd_sF (F : Nat → Bool) (a : Nat) : updF (sF F) a (.bool true) = sF (fun c => decide (c = a) || F c) := by
  funext c
  unfold updF sF
  by_cases e : c = a
  · subst e; simp
  · simp [e]
theorem sF_none : (fun _ => none) = sF (fun _ => false) := rfl

theorem lead_step {su : Nat → Bool} {left : Nat → Bool} {a c : Nat} {v : Value} (hc : sF su c = some v) (x : Nat) :
    (decide (x = c) || (decide (x = a) || (su x && !left x))) = (decide (x = a) || (su x && !(left x && !decide (x = c)))) := by
  by_cases e : x = c
  · subst e
    have : su x = true := by
      unfold sF at hc
      cases h : su x
      · rw [h] at hc; simp at hc
      · rfl
    simp [this]
  · simp [e]

theorem LRows.push {B k : Nat} {F : Nat → Nat → Bool} {mb : Nat → Nat} {lv : Value} {w w' : World} {b g cap : Nat} (h : LRows B k F mb lv w) (hM : MapIs w b (sF (F k))) (hg : w.grownBy w' lv.ownBlock)
    (hown : w'.ownsRow B 61 1 (.slice (some ⟨g, 0, none⟩) (k + 1) cap) (k + 1) (mrow mb k ++ [.map (some b)])) : LRows B (k + 1) F (fun j => if j = k then b else mb j) (.slice (some ⟨g, 0, none⟩) (k + 1) cap) w' := by
  rw [mrow_snoc] at hown
  refine ⟨hown, fun j hj => ?_, Nat.le_trans h.sz hg.size⟩
  by_cases e : j = k
  · subst e
    rw [if_pos rfl]
    exact hM.grown hg (map_ne_row hM h.row)
  · rw [if_neg e]
    have := h.map j (by omega)
    exact this.grown hg (map_ne_row this h.row)

theorem LRows.below {B k : Nat} {F : Nat → Nat → Bool} {mb : Nat → Nat} {lv : Value} {w w' : World} (h : LRows B k F mb lv w) (hb : Below w.heap.size w w') : LRows B k F mb lv w' :=
  ⟨owns_below h.row hb, fun j hj => (h.map j hj).below hb (h.map j hj).lt, Nat.le_trans h.sz hb.size⟩

theorem LRows.append {B k : Nat} {F : Nat → Nat → Bool} {G : Nat → Bool} {mb : Nat → Nat} {lv : Value} {w0 w w' : World} {b g cap : Nat} {o : Obj} (h : LRows B k F mb lv w) (hM : MapIs w b (sF G)) (hG : F k = G) (hb : Below B w0 w) (hg : (w.alloc o).grownBy w' lv.ownBlock)
    (hown : w'.ownsRow B 61 1 (.slice (some ⟨g, 0, none⟩) (k + 1) cap) (k + 1) (mrow mb k ++ [.map (some b)])) : LRows B (k + 1) F (fun j => if j = k then b else mb j) (.slice (some ⟨g, 0, none⟩) (k + 1) cap) w' ∧ Below B w0 w' := by
  have h1 : LRows B k F mb lv (w.alloc o) := h.below ((Below.refl _ _).alloc (Nat.le_refl _) _)
  refine ⟨h1.push (b := b) (by rw [hG]; exact hM.alloc _) hg hown, (hb.alloc h.sz _).grown hg h1.sz (fun x hx => (h1.row.lt x hx).1)⟩

theorem Leads.below {la : Option Addr} {len : Nat} {F : Nat → Nat → Bool} {w w' : World} (h : Leads la len F w) (hb : Below w.heap.size w w') : Leads la len F w' := by
  obtain ⟨lb, h⟩ := h
  refine ⟨lb, fun j hj => ?_⟩
  obtain ⟨h1, m, h2, h3⟩ := h j hj
  exact ⟨h1, m, (hb.cell (p := ⟨lb, j, none⟩) (World.block_lt_of_cell? w ⟨lb, j, none⟩ h2)).trans h2, h3.below hb h3.lt⟩

/-- the test of the second loop -/
def okF (p : Pr) (sk : Nat → Bool) (su : Nat → Nat → Bool) (i a c : Nat) : Bool := decide (p.jn i = 0) || !sk a || (List.range (p.aft i).length).all (fun j => ldF su ((p.aft i).getD j 0) c)
/-- the set behind k leads -/
def stF (p : Pr) (sk : Nat → Bool) (su : Nat → Nat → Bool) (i k c : Nat) : Bool := ((p.aft i).take k).any (fun a => ldF su a c && okF p sk su i a c)

theorem range_all_list (l : List Nat) (f : Nat → Bool) : (List.range l.length).all (fun j => f (l.getD j 0)) = l.all f := by
  rw [Bool.eq_iff_iff, List.all_eq_true, List.all_eq_true]
  constructor
  · intro h x hx
    obtain ⟨j, hj, rfl⟩ := List.getElem_of_mem hx
    have := h j (List.mem_range.2 hj)
    simpa [List.getD, List.getElem?_eq_getElem hj] using this
  · intro h j hj
    have hj := List.mem_range.1 hj
    simpa [List.getD, List.getElem?_eq_getElem hj] using h l[j] (List.getElem_mem hj)

theorem stF_end (p : Pr) (sk : Nat → Bool) (su : Nat → Nat → Bool) (i c : Nat) : stF p sk su i (p.aft i).length c = suF p sk su i c := by
  unfold stF suF okF
  rw [List.take_length]
  have hr := range_all_list (p.aft i) (fun a => ldF su a c)
  simp only [hr]
  generalize p.aft i = l
  cases hall : l.all (fun a => ldF su a c)
  · simp
  · cases l with
    | nil => simp
    | cons a l =>
      simp only [List.all_cons, Bool.and_eq_true] at hall
      simp [hall.1]

theorem set_step {S ld P left : Nat → Bool} {c : Nat} (hc : ld c = true) (hP : P c = true) (x : Nat) :
    (decide (x = c) || (S x || (ld x && !left x && P x))) = (S x || (ld x && !(left x && !decide (x = c)) && P x)) := by
  by_cases e : x = c
  · subst e; simp [hc, hP]
  · simp [e]
theorem set_pass {S ld P left : Nat → Bool} {c : Nat} (hP : P c = false) (x : Nat) :
    (S x || (ld x && !left x && P x)) = (S x || (ld x && !(left x && !decide (x = c)) && P x)) := by
  by_cases e : x = c
  · subst e; simp [hP]
  · simp [e]

theorem jnB_all (j : Nat) : ((jnB j).toList == [97, 108, 108]) = decide (j = 0) := by
  rw [ByteArray.toList_eq]
  unfold jnB
  by_cases h0 : j = 0
  · subst h0; decide
  · by_cases h1 : j = 1
    · subst h1; decide
    · rw [if_neg h0, if_neg h1]; simp [h0]

theorem sF_yes {F : Nat → Bool} {c : Nat} {v : Value} (h : sF F c = some v) : F c = true := by
  unfold sF at h
  cases e : F c
  · rw [e] at h; simp at h
  · rfl

set_option maxRecDepth 100000 in
set_option maxHeartbeats 6400000 in
theorem com1_any (p : Pr) (ok : p.Ok) (sk : Nat → Bool) (su : Nat → Nat → Bool) (bS mS : Nat) (i : Nat) (hi : i < p.n) (aa : Option Addr) (ac ab : Nat) (lv : Value) (w : World) (h : PAt p w) (hx : XM p sk bS mS w)
    (hA : ∀ j, (hj : j < (p.aft i).length) → aa = some ⟨ab, 0, none⟩ ∧ ab < w.heap.size ∧ ∃ m, w.cell? ⟨ab, j, none⟩ = some (.map (some m)) ∧ MapIs w m (sF (su (p.aft i)[j]))) :
    Calls Yba.prog 18 #[.pointer (some ⟨p.pS, i * 12, none⟩), .slice aa (p.aft i).length ac, lv, .pointer (some ⟨bS, 0, none⟩)] w fun e w' => ComRes w (suF p sk su i) e w' := by
  have HP : Hid (PAt p w) := h
  have OK : Hid p.Ok := ok
  have HXM : Hid (XM p sk bS mS w) := hx
  have HA : Hid (∀ j, (hj : j < (p.aft i).length) → aa = some ⟨ab, 0, none⟩ ∧ ab < w.heap.size ∧ ∃ m, w.cell? ⟨ab, j, none⟩ = some (.map (some m)) ∧ MapIs w m (sF (su (p.aft i)[j]))) := hA
  have hn := ok.n
  have hL := ok.aftL i hi
  obtain ⟨v, c1, sa, sc, sb, rfl, hs⟩ := (h.step i hi).aft
  rw [ids_length] at c1
  have HS : Hid (∀ j, (h : j < (ids (p.aft i)).length) → sa = some ⟨sb, 0, none⟩ ∧ sb < p.base ∧ w.cell? ⟨sb, j, none⟩ = some (ids (p.aft i))[j]) := hs
  have hsz := h.sz
  have hpS : p.pS < w.heap.size := Nat.lt_of_lt_of_le ok.pS hsz
  clear h ok hA hs hx
  have hmm := @run_makeMap Yba.prog
  go_enter Yba.func18, Yba.ntmps18
  go_wp2
  go_loopg [8, 22] (p.aft i).length (fun gk lv x wr => Below w.heap.size w wr ∧ ∃ (k : Nat) (mb : Nat → Nat), k ≤ (p.aft i).length ∧ gk + k = (p.aft i).length ∧ x = .int .i64 (k : Int) ∧ LRows w.heap.size k (fun j => ldF su ((p.aft i).getD j 0)) mb lv wr)
  case atStart => exact ⟨Below.refl _ _, 0, fun _ => 0, Nat.zero_le _, rfl, rfl, World.ownsRow_nil _ _ _ _, fun j hj => absurd hj (Nat.not_lt_zero _), Nat.le_refl _⟩
  case round =>
    obtain ⟨hB, k, mb, hk, hgk, rfl, hR⟩ := hrel
    have HB : Hid (Below w.heap.size w wr) := hB
    have HR : Hid (LRows w.heap.size k (fun j => ldF su ((p.aft i).getD j 0)) mb u8 wr) := hR
    have hszr := hB.size
    clear hR
    by_cases hkl : k < (p.aft i).length
    · have hki : (k : Int) < ((p.aft i).length : Int) := by omega
      obtain ⟨rfl, hsb, d1⟩ := HS.out k (by rw [ids_length]; exact hkl)
      rw [ids_at _ _ hkl] at d1
      obtain ⟨rfl, hab, m, d2, hm⟩ := HA.out k hkl
      have ha : (p.aft i)[k] < i := OK.out.aft i hi _ (List.getElem_mem hkl)
      have d1' : wr.cell? ⟨sb, k, none⟩ = some (.string (idB (p.aft i)[k])) := (hB.cell (p := ⟨sb, k, none⟩) (Nat.lt_of_lt_of_le hsb hsz)).trans d1
      have d2' : wr.cell? ⟨ab, k, none⟩ = some (.map (some m)) := (hB.cell (p := ⟨ab, k, none⟩) hab).trans d2
      have hm' : MapIs wr m (sF (su (p.aft i)[k])) := hm.below hB hm.lt
      have hg0 : (p.aft i).getD k 0 = (p.aft i)[k] := by simp [List.getD, List.getElem?_eq_getElem hkl]
      clear d1 d2 hB hm
      generalize (p.aft i)[k] = a at ha d1' hm' hg0
      obtain ⟨w2, hup, hM2, hg2, hs2⟩ := (MapIs.made wr).update Yba.underlying61 (show a < 48 by omega) (.bool true)
      rw [sF_none, upd_sF] at hM2
      have hB2 : Below wr.heap.size wr w2 := ((Below.refl _ _).alloc (Nat.le_refl _) _).grown hg2 (by simp) (fun x hx => by cases hx; exact Nat.le_refl _)
      have d2'' : w2.cell? ⟨ab, k, none⟩ = some (.map (some m)) := (hB2.cell (p := ⟨ab, k, none⟩) (Nat.lt_of_lt_of_le hab hszr)).trans d2'
      have HM2 : Hid (MapIs w2 wr.heap.size (sF (fun c => decide (c = a) || false))) := hM2
      have HB2 : Hid (Below wr.heap.size wr w2) := hB2
      have Hm2 : Hid (MapIs w2 m (sF (su a))) := hm'.below hB2 hm'.lt
      have hmlt : m < wr.heap.size := hm'.lt
      clear hM2 hB2 hm' hg2
      go_wp2_with (at_range; refine wpList_range_is _ rfl _ 61 rfl 4 Yba.underlying61 m _ rfl Hm2.out ?_; intro w3 hR3 hg3 hs3)
      have hw2 : w2.heap.size = wr.heap.size + 1 := by rw [hs2]; simp
      rw [hw2] at hR3
      have hB3 : Below wr.heap.size wr w3 := HB2.out.grown hg3 (by omega) (fun x hx => by cases hx)
      have hM3 : MapIs w3 wr.heap.size (sF (fun c => decide (c = a) || (su a c && !(sF (su a) c).isSome))) := (HM2.out.grown hg3 (by simp)).sF (fun c _ => by rw [sF_some]; cases su a c <;> simp)
      have HR3 : Hid (RangeIs w3 m (wr.heap.size + 1) (sF (su a)) (fun c => (sF (su a) c).isSome) (cntF (sF (su a)))) := hR3
      have HB3 : Hid (Below wr.heap.size wr w3) := hB3
      have HM3 : Hid (MapIs w3 wr.heap.size (sF (fun c => decide (c = a) || (su a c && !(sF (su a) c).isSome)))) := hM3
      clear hR3 hB3 hM3 hg3 hs3 hw2 HB2 HM2 Hm2 hs2 hup d2'' d2' d1' hki
      clear w2
      generalize hb1 : wr.heap.size = b1 at HR3 HB3 HM3 hmlt hszr ⊢
      go_loopg [12] (cntF (sF (su a))) (fun gk _ wq => ∃ left, RangeIs wq m (b1 + 1) (sF (su a)) left gk ∧ MapIs wq b1 (sF (fun c => decide (c = a) || (su a c && !left c))) ∧ Below b1 wr wq)
      case atStart => exact ⟨_, HR3.out, HM3.out, HB3.out⟩
      case round =>
        clear HR3 HM3 HB3
        obtain ⟨left, hRg, hM, hBq⟩ := hrel
        have HRg : Hid (RangeIs wr m (b1 + 1) (sF (su a)) left gk) := hRg
        have HM : Hid (MapIs wr b1 (sF (fun c => decide (c = a) || (su a c && !left c)))) := hM
        have HBq : Hid (Below b1 _ wr) := hBq
        have hb1s : b1 ≤ wr.heap.size := Nat.le_of_lt hM.lt
        clear hRg hM hBq
        go_wp2_with (at_next; refine wpList_next_is _ rfl _ rfl m (b1 + 1) _ left gk rfl HRg.out ?_ ?_)
        · intro hl0
          have HM5 : Hid (MapIs wr b1 (sF (ldF su a))) := HM.out.sF (fun c hc => by rw [hl0 c hc]; simp [ldF])
          have HR5 : Hid (LRows w.heap.size k (fun j => ldF su ((p.aft i).getD j 0)) mb u8 wr) := HR.out.below (by rw [hb1]; exact HBq.out)
          have HB5 : Hid (Below w.heap.size w wr) := HB.out.trans (HBq.out.mono hszr)
          have hsw : w.heap.size ≤ wr.heap.size := HB5.out.size
          obtain ⟨i2, hi2, hz20, hz21, hz22⟩ := info_parts info61
          clear HR HB HM HBq HRg hl0
          go_wp2_with (first
            | (at_builtin; refine wpList_append_lies _ rfl _ _ 66 rfl w.heap.size 61 i2 (.map none) 1 8 Yba.underlying66 hi2 hz20 hz21 hz22 rfl (by decide) u8 k (mrow mb k) rfl (HR5.out.row.alloc _) ⟨wr.heap.size, 0, none⟩ 1 1 [.map (some b1)] rfl rfl (cell_one_new _ _ _) (by intro u hu; simp at hu; subst hu; rfl) (by decide) (by unfold maxLen; omega) (by omega) (by simp; omega) _ rfl ?_; intro gf capf w6 hown6 hgrow6 hat6 _
               have hap := HR5.out.append (b := b1) (G := ldF su a) (F := fun j => ldF su ((p.aft i).getD j 0)) HM5.out (by exact congrArg (ldF su) hg0) HB5.out hgrow6 hown6
               have HR6 : Hid (LRows w.heap.size (k + 1) (fun j => ldF su ((p.aft i).getD j 0)) (fun j => if j = k then b1 else mb j) (.slice (some ⟨gf, 0, none⟩) (k + 1) capf) w6) := hap.1
               have HB6 : Hid (Below w.heap.size w w6) := hap.2
               clear hown6 hgrow6 hat6 hap))
          go_roundg ((p.aft i).length - (k + 1))
          case measure => omega
          case rel => exact ⟨HB6.out, k + 1, _, by omega, by omega, by go_num, HR6.out⟩
        · intro c v w5 cnt' hc hlc hfc hR5 hlt hg5 hs5 hen
          obtain ⟨w6, hup, hM6, hg6, hs6⟩ := (HM.out.grown hg5 (by simp)).update Yba.underlying61 hc (.bool true)
          rw [upd_sF] at hM6
          have HM6 : Hid (MapIs w6 b1 (sF (fun x => decide (x = a) || (su a x && !(left x && !decide (x = c)))))) := hM6.sF (fun x _ => lead_step hfc x)
          have HR6 : Hid (RangeIs w6 m (b1 + 1) (sF (su a)) (fun j => left j && !decide (j = c)) cnt') := hR5.grown hg6 (by simp; omega) (by simp)
          have HB6 : Hid (Below b1 _ w6) := (HBq.out.grown hg5 hb1s (fun x hx => by cases hx; omega)).grown hg6 (by omega) (fun x hx => by cases hx; omega)
          clear hM6 hR5 hg5 hg6 HM HRg HBq hlc hfc
          go_wp2
          go_roundg cnt'
          case measure => omega
          case rel => exact ⟨_, HR6.out, HM6.out, HB6.out⟩
    · have hki : ¬ (k : Int) < ((p.aft i).length : Int) := by omega
      obtain rfl : k = (p.aft i).length := by omega
      obtain ⟨la, lc, rfl, hld⟩ := HR.out.form
      obtain ⟨wz, rfl⟩ : ∃ z, z = wr := ⟨wr, rfl⟩
      have HLd : Hid (Leads la (p.aft i).length (fun j => ldF su ((p.aft i).getD j 0)) wz) := hld
      have HM0 : Hid (MapIs (wz.alloc (.map #[] 0)) wz.heap.size (sF (stF p sk su i 0))) := (MapIs.made wz).congr (fun c _ => by simp [sF, stF])
      have HB0 : Hid (Below wz.heap.size wz (wz.alloc (.map #[] 0))) := (Below.refl _ _).alloc (Nat.le_refl _) _
      clear hld HR hB hgk hk hkl
      go_wp2
      clear hki
      generalize wz.alloc (.map #[] 0) = w2 at HM0 HB0 ⊢
      generalize hb2 : wz.heap.size = b2 at HM0 HB0 hszr ⊢
      go_loopg [49] (p.aft i).length (fun gk x wq => ∃ k : Nat, k ≤ (p.aft i).length ∧ gk + k = (p.aft i).length ∧ x = .int .i64 (k : Int) ∧ MapIs wq b2 (sF (stF p sk su i k)) ∧ Below b2 wz wq)
      case atStart => exact ⟨0, Nat.zero_le _, rfl, rfl, HM0.out, HB0.out⟩
      case round =>
        clear HM0 HB0
        obtain ⟨k, hk, hgk, rfl, hM, hBq⟩ := hrel
        have HM : Hid (MapIs wr b2 (sF (stF p sk su i k))) := hM
        have HBq : Hid (Below b2 wz wr) := hBq
        have hb2s : b2 < wr.heap.size := hM.lt
        clear hM hBq
        by_cases hkl : k < (p.aft i).length
        · have hki : (k : Int) < ((p.aft i).length : Int) := by omega
          obtain ⟨lb, hld⟩ := HLd.out
          obtain ⟨rfl, m, d2, hm⟩ := hld k hkl
          have hlb : lb < b2 := by rw [← hb2]; exact World.block_lt_of_cell? wz ⟨lb, k, none⟩ d2
          have hmlt : m < b2 := by rw [← hb2]; exact hm.lt
          have d2' : wr.cell? ⟨lb, k, none⟩ = some (.map (some m)) := (HBq.out.cell (p := ⟨lb, k, none⟩) hlb).trans d2
          have hm' : MapIs wr m (sF (ldF su ((p.aft i).getD k 0))) := hm.below HBq.out hmlt
          have Hm : Hid (MapIs wr m (sF (ldF su ((p.aft i).getD k 0)))) := hm'
          clear hld d2 hm hm'
          go_wp2_with (at_range; refine wpList_range_is _ rfl _ 61 rfl 4 Yba.underlying61 m _ rfl Hm.out ?_; intro w3 hR3 hg3 hs3)
          go_frame
          obtain ⟨rfl, hsb, d1⟩ := HS.out k (by rw [ids_length]; exact hkl)
          rw [ids_at _ _ hkl] at d1
          have ha : (p.aft i)[k] < i := OK.out.aft i hi _ (List.getElem_mem hkl)
          have HSt : Hid (∀ c, stF p sk su i (k + 1) c = (stF p sk su i k c || (ldF su (p.aft i)[k] c && okF p sk su i (p.aft i)[k] c))) := fun c => take_any_succ (p.aft i) (fun a => ldF su a c && okF p sk su i a c) k hkl
          have hg0 : (p.aft i).getD k 0 = (p.aft i)[k] := by simp [List.getD, List.getElem?_eq_getElem hkl]
          rw [hg0] at hR3
          have hM3 : MapIs w3 b2 (sF (fun c => stF p sk su i k c || (ldF su (p.aft i)[k] c && !(sF (ldF su (p.aft i)[k]) c).isSome && okF p sk su i (p.aft i)[k] c))) := (HM.out.grown hg3 (by simp)).sF (fun c _ => by rw [sF_some]; cases ldF su (p.aft i)[k] c <;> simp)
          have hB3 : Below b2 wz w3 := HBq.out.grown hg3 (by omega) (fun x hx => by cases hx)
          generalize (p.aft i)[k] = a at ha hR3 hM3 HSt d1
          have HR3 : Hid (RangeIs w3 m wr.heap.size (sF (ldF su a)) (fun c => (sF (ldF su a) c).isSome) (cntF (sF (ldF su a)))) := hR3
          have HM3 : Hid (MapIs w3 b2 (sF (fun c => stF p sk su i k c || (ldF su a c && !(sF (ldF su a) c).isSome && okF p sk su i a c)))) := hM3
          have HB3 : Hid (Below b2 wz w3) := hB3
          clear hR3 hM3 hB3 hg3 hs3 HM HBq Hm d2' hg0
          generalize wr.heap.size = r at hb2s HR3 ⊢
          go_loopg [16] (cntF (sF (ldF su a))) (fun gk _ wq => ∃ left, RangeIs wq m r (sF (ldF su a)) left gk ∧ MapIs wq b2 (sF (fun c => stF p sk su i k c || (ldF su a c && !left c && okF p sk su i a c))) ∧ Below b2 wz wq)
          case atStart => exact ⟨_, HR3.out, HM3.out, HB3.out⟩
          case round =>
            clear HR3 HM3 HB3
            obtain ⟨left, hRg, hM, hBq⟩ := hrel
            have HRg : Hid (RangeIs wr m r (sF (ldF su a)) left gk) := hRg
            have HM : Hid (MapIs wr b2 (sF (fun c => stF p sk su i k c || (ldF su a c && !left c && okF p sk su i a c)))) := hM
            have HBq : Hid (Below b2 wz wr) := hBq
            have hb2w : b2 < wr.heap.size := hM.lt
            clear hRg hM hBq
            go_wp2_with (at_next; refine wpList_next_is _ rfl _ rfl m r _ left gk rfl HRg.out ?_ ?_)
            · intro hl0
              have HM5 : Hid (MapIs wr b2 (sF (stF p sk su i (k + 1)))) := HM.out.sF (fun c hc => by rw [hl0 c hc, HSt.out]; simp)
              clear HM HRg hl0
              go_wp2
              go_roundg ((p.aft i).length - (k + 1))
              case measure => omega
              case rel => exact ⟨k + 1, by omega, by omega, by go_num, HM5.out, HBq.out⟩
            · intro c v w5 cnt' hc hlc hfc hR5 hlt hg5 hs5 hen
              have hldc : ldF su a c = true := sF_yes hfc
              have hB5 : Below b2 wz w5 := HBq.out.grown hg5 (by omega) (fun x hx => by cases hx; omega)
              have hBw : Below w.heap.size w w5 := HB.out.trans (hB5.mono hszr)
              have hM5 : MapIs w5 b2 (sF (fun c => stF p sk su i k c || (ldF su a c && !left c && okF p sk su i a c))) := HM.out.grown hg5 (by simp; omega)
              have HM5 : Hid (MapIs w5 b2 (sF (fun c => stF p sk su i k c || (ldF su a c && !left c && okF p sk su i a c)))) := hM5
              have HR5 : Hid (RangeIs w5 m r (sF (ldF su a)) (fun j => left j && !decide (j = c)) cnt') := hR5
              have HB5 : Hid (Below b2 wz w5) := hB5
              have cj : w5.cell? ⟨p.pS, i * 12 + 2, none⟩ = some (.string (jnB (p.jn i))) := (hBw.cell (p := ⟨p.pS, i * 12 + 2, none⟩) hpS).trans (HP.out.step i hi).join
              have HUp : Hid (okF p sk su i a c = true → ∀ q, ∃ w6, (Instr.mapUpdate 61 (.map (some b2)) (.string (idB c)) (.bool true)).run Yba.prog (w5.drewN q) = .ok () w6 ∧ MapIs w6 b2 (sF (fun x => stF p sk su i k x || (ldF su a x && !(left x && !decide (x = c)) && okF p sk su i a x))) ∧ RangeIs w6 m r (sF (ldF su a)) (fun j => left j && !decide (j = c)) cnt' ∧ Below b2 wz w6) := by
                intro hok q
                obtain ⟨w6, hup, hM6, hg6, hs6⟩ := (hM5.grown (w' := w5.drewN q) ⟨rfl, rfl, rfl, Nat.le_refl _, fun _ _ _ => rfl⟩ (row := none) (by simp)).update Yba.underlying61 hc (.bool true)
                rw [upd_sF] at hM6
                exact ⟨w6, hup, hM6.sF (fun x _ => set_step hldc hok x), ((HR5.out.grown (w' := w5.drewN q) ⟨rfl, rfl, rfl, Nat.le_refl _, fun _ _ _ => rfl⟩ (row := none) (by simp) (by simp))).grown hg6 (by simp; omega) (by simp; omega), (Below.grown (w := w5.drewN q) ⟨hB5.os, hB5.tape, hB5.output, hB5.size, hB5.block⟩ hg6 (by show b2 ≤ w5.heap.size; omega) (fun x hx => by cases hx; omega))⟩
              clear hM5 hR5 hB5 hg5 HM HRg HBq hfc hlc
              by_cases hj : p.jn i = 0
              · have hd : ((jnB (p.jn i)).toList == [97, 108, 108]) = true := by rw [jnB_all, hj]; rfl
                have hok : okF p sk su i a c = true := by unfold okF; simp [hj]
                have HOk : Hid (okF p sk su i a c = true) := hok
                clear hj hok
                go_wp2
                go_quiet (fail)
                obtain ⟨w6, hup, hM6, hR6, hB6⟩ := HUp.out HOk.out nq
                have HM6 : Hid (MapIs w6 b2 _) := hM6
                have HR6 : Hid (RangeIs w6 m r _ _ cnt') := hR6
                have HB6 : Hid (Below b2 wz w6) := hB6
                clear hM6 hR6 hB6 HUp HM5 HR5 HB5 cj
                go_wp2
                go_roundg cnt'
                case measure => omega
                case rel => exact ⟨_, HR6.out, HM6.out, HB6.out⟩
              · have hd : ((jnB (p.jn i)).toList == [97, 108, 108]) = false := by rw [jnB_all]; simp [hj]
                have ch : w5.cell? ⟨p.pS, i * 12 + 1, none⟩ = some (.slice (some ⟨sb, 0, none⟩) (p.aft i).length sc) := (hBw.cell (p := ⟨p.pS, i * 12 + 1, none⟩) hpS).trans c1
                have d1' : w5.cell? ⟨sb, k, none⟩ = some (.string (idB a)) := (hBw.cell (p := ⟨sb, k, none⟩) (Nat.lt_of_lt_of_le hsb hsz)).trans d1
                have hbSs : bS < w.heap.size := World.block_lt_of_cell? w ⟨bS, 0, none⟩ HXM.out.1
                have cS : w5.cell? ⟨bS, 0, none⟩ = some (.map (some mS)) := (hBw.cell (p := ⟨bS, 0, none⟩) hbSs).trans HXM.out.1
                have hmS : MapIs w5 mS (fun j => if j < p.n then some (.bool (sk j)) else none) := HXM.out.2.below hBw HXM.out.2.lt
                have hk0 : (0 : Int) ≤ (k : Int) := by omega
                have hlk : ∀ q, (Instr.lookup 61 (.map (some mS)) (.string (idB a)) false).run Yba.prog (w5.drewN q) = .ok (.bool (sk a)) (w5.drewN q) := by
                  intro q
                  have := (hmS.grown (w' := w5.drewN q) ⟨rfl, rfl, rfl, Nat.le_refl _, fun _ _ _ => rfl⟩ (row := none) (by simp)).look Yba.underlying61 (zero4 _) (i := a) (by omega)
                  rw [if_pos (by omega)] at this
                  exact this
                cases hsk : sk a
                · have hok : okF p sk su i a c = true := by unfold okF; simp [hsk]
                  have HOk : Hid (okF p sk su i a c = true) := hok
                  clear hok
                  rw [hsk] at hlk
                  clear hmS
                  go_wp2
                  go_quiet (fail)
                  obtain ⟨w6, hup, hM6, hR6, hB6⟩ := HUp.out HOk.out nq
                  have HM6 : Hid (MapIs w6 b2 _) := hM6
                  have HR6 : Hid (RangeIs w6 m r _ _ cnt') := hR6
                  have HB6 : Hid (Below b2 wz w6) := hB6
                  clear hM6 hR6 hB6 HUp HM5 HR5 HB5 cj ch d1' cS hlk
                  go_wp2
                  go_roundg cnt'
                  case measure => omega
                  case rel => exact ⟨_, HR6.out, HM6.out, HB6.out⟩
                · rw [hsk] at hlk
                  have HL5 : Hid (∀ q, Leads (some ⟨lb, 0, none⟩) (p.aft i).length (fun j => ldF su ((p.aft i).getD j 0)) (w5.drewN q)) := fun q => HLd.out.below (by rw [hb2]; exact ⟨HB5.out.os, HB5.out.tape, HB5.out.output, HB5.out.size, HB5.out.block⟩)
                  have HK : Hid (okF p sk su i a c = (List.range (p.aft i).length).all (fun j => ldF su ((p.aft i).getD j 0) c)) := (by unfold okF; simp [hsk, hj] : okF p sk su i a c = _)
                  have HC : Hid (∀ q, Calls Yba.prog 19 #[.slice (some ⟨lb, 0, none⟩) (p.aft i).length lc, .string (idB c)] (w5.drewN q) fun e w' => e = .returned (.bool (okF p sk su i a c)) ∧ w' = w5.drewN q) := fun q => by rw [HK.out]; exact allHold_any _ _ _ _ c hc hL _ (HL5.out q)
                  clear hmS HL5 HK
                  cases hok : okF p sk su i a c
                  · have HOk : Hid (okF p sk su i a c = false) := hok
                    simp only [hok] at HC
                    clear hok
                    go_wp2
                    go_quiet ((go_at_call 19; exact Calls.quiet_of_same (HC.out _)))
                    have HM6 : Hid (MapIs (w5.drewN nq) b2 (sF (fun x => stF p sk su i k x || (ldF su a x && !(left x && !decide (x = c)) && okF p sk su i a x)))) := (HM5.out.grown (w' := w5.drewN nq) ⟨rfl, rfl, rfl, Nat.le_refl _, fun _ _ _ => rfl⟩ (row := none) (by simp)).sF (fun x _ => set_pass HOk.out x)
                    have HR6 : Hid (RangeIs (w5.drewN nq) m r (sF (ldF su a)) (fun j => left j && !decide (j = c)) cnt') := HR5.out.grown (w' := w5.drewN nq) ⟨rfl, rfl, rfl, Nat.le_refl _, fun _ _ _ => rfl⟩ (row := none) (by simp) (by simp)
                    have HB6 : Hid (Below b2 wz (w5.drewN nq)) := ⟨HB5.out.os, HB5.out.tape, HB5.out.output, HB5.out.size, HB5.out.block⟩
                    clear HUp HM5 HR5 HB5 cj ch d1' cS hlk
                    go_wp2
                    go_roundg cnt'
                    case measure => omega
                    case rel => exact ⟨_, HR6.out, HM6.out, HB6.out⟩
                  · have HOk : Hid (okF p sk su i a c = true) := hok
                    simp only [hok] at HC
                    clear hok
                    go_wp2
                    go_quiet ((go_at_call 19; exact Calls.quiet_of_same (HC.out _)))
                    obtain ⟨w6, hup, hM6, hR6, hB6⟩ := HUp.out HOk.out nq
                    have HM6 : Hid (MapIs w6 b2 _) := hM6
                    have HR6 : Hid (RangeIs w6 m r _ _ cnt') := hR6
                    have HB6 : Hid (Below b2 wz w6) := hB6
                    clear hM6 hR6 hB6 HUp HM5 HR5 HB5 cj ch d1' cS hlk
                    go_wp2
                    go_roundg cnt'
                    case measure => omega
                    case rel => exact ⟨_, HR6.out, HM6.out, HB6.out⟩
        · have hki : ¬ (k : Int) < ((p.aft i).length : Int) := by omega
          obtain rfl : k = (p.aft i).length := by omega
          go_wp2
          go_ret
          exact ⟨b2, rfl, hszr, HM.out.sF (fun c _ => stF_end p sk su i c), HB.out.trans (HBq.out.mono hszr)⟩

end Go.Proofs.Ybulkcnke
