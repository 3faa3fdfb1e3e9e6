/-
  SerialOrder: the walk.
-/
import Derived.Test.YbulkcnjcCSerMem
namespace Go.Proofs.Ybulkcnjc
open Go.RowKit Go.Deep Hp
set_option linter.unusedVariables false
attribute [local go_sem ↓] Go.wp_at_zero Go.wp_at_succ

theorem make_int0 (n : Nat) (hn : n ≤ 100000) (W : World) : (Instr.makeSlice 26 (.int .i64 0) (.int .i64 (n : Int))).run Yba.prog W = .ok (.slice (some ⟨W.heap.size, 0, none⟩) 0 n) (W.alloc (.cells (madeCells #[.int .i64 0] n) 3)) := by
  obtain ⟨i, hi, hz, hs, hb⟩ := info_parts info3
  have hr := run_make (P := Yba.prog) W 26 3 i _ Yba.underlying26 hi hz .i64 .i64 0 n (by omega) (by omega) (by rw [hb]; omega) (by omega)
  simp only [Int.toNat_natCast, hs, Nat.mul_one] at hr
  exact hr
theorem owns_made0 (w : World) (B n : Nat) (hB : B ≤ w.heap.size) (hn : n ≤ 100000) : (w.alloc (.cells (madeCells #[.int .i64 0] n) 3)).ownsRow B 3 1 (.slice (some ⟨w.heap.size, 0, none⟩) 0 n) 0 [] := by
  refine ⟨rfl, Or.inr ⟨w.heap.size, n, madeCells #[.int .i64 0] n, rfl, hB, heap_alloc_new _ _, Nat.zero_le _, by unfold maxLen; omega, ?_, ?_⟩⟩
  · rw [size_madeCells, Nat.mul_one]
  · simp

/-- the graph, in memory -/
structure GR (m K : Nat) (ST FB : Nat → Nat) (U : Nat → Int) (bg bS bX bN : Nat) (pN : Option Addr) (cN : Nat) (ev : Value) (w : World) : Prop where
  g : Blk w bg 55 #[.slice pN m cN, ev, .slice (some ⟨bS, 0, none⟩) (m + 1) (m + 1), .slice (some ⟨bX, 0, none⟩) K K]
  st : ∀ i, i ≤ m → w.cell? ⟨bS, i, none⟩ = some (.int .i64 (ST i : Int))
  sc : ∀ c, c < K → w.cell? ⟨bX, c, none⟩ = some (.int .i32 (FB c : Int))
  nd : ∀ i, i < m → pN = some ⟨bN, 0, none⟩ ∧ w.cell? ⟨bN, i, none⟩ = some (.int .i64 (U i))
  lS : bS < w.heap.size
  lX : bX < w.heap.size
  lN : 0 < m → bN < w.heap.size

theorem GR.below {m K : Nat} {ST FB : Nat → Nat} {U : Nat → Int} {bg bS bX bN : Nat} {pN : Option Addr} {cN : Nat} {ev : Value} {w w' : World} (h : GR m K ST FB U bg bS bX bN pN cN ev w) {B : Nat} (hB : B = w.heap.size) (hb : Below B w w') : GR m K ST FB U bg bS bX bN pN cN ev w' := by
  subst hB
  have hs := hb.size
  have := h.lS
  have := h.lX
  have hN := h.lN
  exact ⟨h.g.below hb h.g.lt, fun i hi => (hb.cell h.lS).trans (h.st i hi), fun i hi => (hb.cell h.lX).trans (h.sc i hi), fun i hi => ⟨(h.nd i hi).1, (hb.cell (h.lN (by omega))).trans (h.nd i hi).2⟩, by omega, by omega, fun h => by have := hN h; omega⟩

def SerRes (A : Nat → Nat → Bool) (m : Nat) (U : Nat → Int) (w : World) (e : Ending) (w' : World) : Prop :=
  Below w.heap.size w w' ∧
  ((Kh.ord A m).length = m → ∃ g cap, e = .returned (.tuple #[.slice (some ⟨g, 0, none⟩) m cap, .bool true]) ∧ ∀ j, j < m → w'.cell? ⟨g, j, none⟩ = some (.int .i64 (U ((Kh.ord A m).getD j 0)))) ∧
  ((Kh.ord A m).length ≠ m → e = .returned (.tuple #[.slice none 0 0, .bool false]))

theorem blk_hfr {w w' : World} {hb b : Nat} {hv : Value} {t : TypeId} {C : Array Value} (h : Blk w b t C) (hf : HFr hb hv w w') (h1 : b ≠ hb) (h2 : some b ≠ hv.ownBlock) : Blk w' b t C := by
  unfold Blk
  rw [hf.block b h.lt h1 h2]
  exact h
theorem below_hfr {w0 w w' : World} {B hb n : Nat} {hv : Value} {F : Nat → Nat} (h : Below B w0 w) (hf : HFr hb hv w w') (hm : HM hb (hb + 1) F n hv w) (hB : B ≤ hb) : Below B w0 w' := by
  have := hm.sz
  refine ⟨hf.os.trans h.os, hf.tape.trans h.tape, hf.output.trans h.output, Nat.le_trans h.size hf.size, fun k hk => ?_⟩
  rw [hf.block k (by omega) (by omega) (fun e => by have := (hm.row.lt k e.symm).1; omega)]
  exact h.block k hk

/-- the heap as it is filled: ascending -/
structure Fill (F : Nat → Nat) (n k : Nat) (W0 : Nat → Nat) : Prop where
  up : ∀ i j, i ≤ j → j < n → F i ≤ F j
  of : Of F n (fun i => decide (i < k) && decide (W0 i = 0))
  len : n ≤ k

theorem Fill.start (F : Nat → Nat) (W0 : Nat → Nat) : Fill F 0 0 W0 :=
  ⟨fun i j _ h => absurd h (Nat.not_lt_zero _), ⟨fun i j h => absurd h (Nat.not_lt_zero _), fun x => by simp⟩, Nat.le_refl _⟩
theorem Fill.yes {F : Nat → Nat} {n k : Nat} {W0 : Nat → Nat} (h : Fill F n k W0) (hk : W0 k = 0) : Fill (fun j => if j = n then k else F j) (n + 1) (k + 1) W0 := by
  have hlow : ∀ i, i < n → F i < k := fun i hi => by
    have := (h.of.mem (F i)).2 ⟨i, hi, rfl⟩
    simp at this
    exact this.1
  refine ⟨fun i j hij hj => ?_, ?_, by have := h.len; omega⟩
  · by_cases e : j = n
    · subst e
      by_cases e' : i = j
      · simp [e']
      · simp [e']; have := hlow i (by omega); omega
    · simp [e, show i ≠ n by omega]; exact h.up i j hij (by omega)
  · have h2 := h.of.push (x := k) (by simp)
    have e : ins (fun i => decide (i < k) && decide (W0 i = 0)) k = fun i => decide (i < k + 1) && decide (W0 i = 0) := by
      funext i
      unfold ins
      by_cases e : i = k
      · subst e; simp [hk]
      · have e1 : (i < k + 1) ↔ (i < k) := by omega
        simp [e, e1]
    rwa [e] at h2
theorem Fill.no {F : Nat → Nat} {n k : Nat} {W0 : Nat → Nat} (h : Fill F n k W0) (hk : W0 k ≠ 0) : Fill F n (k + 1) W0 := by
  refine ⟨h.up, ?_, by have := h.len; omega⟩
  have e : (fun i => decide (i < k) && decide (W0 i = 0)) = fun i => decide (i < k + 1) && decide (W0 i = 0) := by
    funext i
    by_cases e : i = k
    · subst e; simp [hk]
    · have e1 : (i < k + 1) ↔ (i < k) := by omega
      simp [e1]
  rw [← e]
  exact h.of
theorem Fill.isH {F : Nat → Nat} {n k : Nat} {W0 : Nat → Nat} (h : Fill F n k W0) : IsH F n := fun i h0 hi => h.up _ _ (by unfold par; omega) hi
theorem Fill.last {F : Nat → Nat} {n m K : Nat} {A : Nat → Nat → Bool} {ST FB : Nat → Nat} (g : Kh.Gr A m K ST FB) (h : Fill F n m (Tj.cnt FB K)) : Of F n (Kh.rdy A (fun _ => false) m) := by
  have e : (fun i => decide (i < m) && decide (Tj.cnt FB K i = 0)) = Kh.rdy A (fun _ => false) m := by
    funext i
    unfold Kh.rdy
    rw [g.first i]
    simp
  rw [← e]
  exact h.of

def ordV (U : Nat → Int) (ks : List Nat) : List Value := ks.map fun k => .int .i64 (U k)
theorem ordV_length (U : Nat → Int) (ks : List Nat) : (ordV U ks).length = ks.length := by simp [ordV]
theorem ordV_snoc (U : Nat → Int) (ks : List Nat) (v : Nat) : ordV U ks ++ [.int .i64 (U v)] = ordV U (ks ++ [v]) := by simp [ordV]

theorem ct_le {p : Nat → Bool} : ∀ n, Kh.ct p n ≤ n
  | 0 => Nat.le_refl _
  | n + 1 => by
    unfold Kh.ct
    have := ct_le (p := p) n
    by_cases h : p n = true
    · rw [if_pos h]; omega
    · rw [if_neg h]; omega
theorem ct_none {p : Nat → Bool} (h : ∀ i, p i = false) : ∀ n, Kh.ct p n = 0
  | 0 => rfl
  | n + 1 => by unfold Kh.ct; rw [ct_none h n, h n]; simp
theorem of_count {F : Nat → Nat} {m : Nat} : ∀ (n : Nat) (S : Nat → Bool), Of F n S → (∀ x, S x = true → x < m) → Kh.ct S m = n
  | 0, S, ho, _ => ct_none (fun i => by
      cases h : S i with
      | false => rfl
      | true => obtain ⟨k, hk, _⟩ := (ho.mem i).1 h; omega) m
  | n + 1, S, ho, hS => by
    have hn : S (F n) = true := (ho.mem _).2 ⟨n, by omega, rfl⟩
    have ih := of_count n _ ho.pop (fun x hx => hS x (by unfold rem at hx; simp at hx; exact hx.1))
    have := Kh.ct_flip (p := S) (q := rem S (F n)) (v := F n) hn (by simp [rem]) (fun i hi => by simp [rem, hi]) (hS _ hn)
    omega
theorem of_le {F : Nat → Nat} {n m : Nat} {S : Nat → Bool} (ho : Of F n S) (hS : ∀ x, S x = true → x < m) : n ≤ m := by
  rw [← of_count n S ho hS]
  exact ct_le m

theorem owns_form {w : World} {base e size : Nat} {v : Value} {n : Nat} {xs : List Value} (h : w.ownsRow base e size v n xs) : ∃ a c, v = .slice a n c := by
  rcases h.2 with ⟨rfl, rfl⟩ | ⟨g, cap, cur, rfl, _⟩
  · exact ⟨_, _, rfl⟩
  · exact ⟨_, _, rfl⟩

theorem rdy_lt {A : Nat → Nat → Bool} {P : Nat → Bool} {m : Nat} : ∀ x, Kh.rdy A P m x = true → x < m := fun x h => ((Kh.rdy_iff A P m x).1 h).1

theorem in_lt {A : Nat → Nat → Bool} {P : Nat → Bool} {m K a j v : Nat} {ST FB Wt0 Wt : Nat → Nat} {S : Nat → Bool} (g : Kh.Gr A m K ST FB) (hj : j ≤ K) (h : Kh.InL FB a j Wt0 (rem (Kh.rdy A P m) v) Wt S) : ∀ x, S x = true → x < m := fun x hx => by
  rcases (h.set x).1 hx with h' | ⟨⟨i, h1, h2, h3⟩, _⟩
  · unfold rem at h'; simp at h'; exact rdy_lt x h'.1
  · rw [← h3]; exact g.fb i (by omega)

set_option maxRecDepth 100000 in
set_option maxHeartbeats 6400000 in
theorem serial_any (A : Nat → Nat → Bool) (m K : Nat) (ST FB : Nat → Nat) (g : Kh.Gr A m K ST FB) (U : Nat → Int) (bg bS bX bN : Nat) (pN : Option Addr) (cN : Nat) (ev : Value) (w : World) (hm : m ≤ 512) (hK : K ≤ 1024) (hG : GR m K ST FB U bg bS bX bN pN cN ev w) :
    Calls Yba.prog 8 #[.pointer (some ⟨bg, 0, none⟩)] w fun e w' => SerRes A m U w e w' := by
  have HG : Hid (GR m K ST FB U bg bS bX bN pN cN ev w) := hG
  have HGr : Hid (Kh.Gr A m K ST FB) := g
  have c0 : w.cell? ⟨bg, 0, none⟩ = some (.slice pN m cN) := by rw [hG.g.cell]; rfl
  clear hG g
  have hmk := fun W => run_make_row' (P := Yba.prog) 26 3 (.int .i64 0) 8 Yba.underlying26 info3 rfl .i64 .i64 m (by omega) (by omega) W
  go_enter Yba.func8, Yba.ntmps8
  go_upto_region 2 with fail
  clear hmk c0
  obtain ⟨w1, hw1⟩ : ∃ z, z = w.alloc (.cells (madeCells #[.int .i64 0] m) 3) := ⟨_, rfl⟩
  have HW1 : Hid (Blk w1 w.heap.size 3 (lints m (Tj.cnt FB 0))) := by
    show Blk w1 w.heap.size 3 (lints m (fun _ => 0))
    rw [← made_lints, hw1]; exact Blk.new _ _ _
  have HB1 : Hid (Below w.heap.size w w1) := by rw [hw1]; exact (Below.refl _ _).alloc (Nat.le_refl _) _
  rw [← hw1]
  clear hw1
  obtain ⟨bW, hbW⟩ : ∃ z, z = w.heap.size := ⟨_, rfl⟩
  rw [← hbW] at HW1 HB1 ⊢
  have HbW : Hid (bW = w.heap.size) := hbW
  clear hbW
  have c3 : w1.cell? ⟨bg, 3, none⟩ = some (.slice (some ⟨bX, 0, none⟩) K K) := by rw [(HG.out.below HbW.out HB1.out).g.cell]; rfl
  go_wp2
  clear c3
  go_loopg [26] K (fun gk i wr => ∃ k : Nat, k ≤ K ∧ gk + k = K ∧ i = .int .i64 (k : Int) ∧ Blk wr bW 3 (lints m (Tj.cnt FB k)) ∧ Below bW w wr)
  case atStart => exact ⟨0, Nat.zero_le _, rfl, rfl, HW1.out, HB1.out⟩
  case round =>
    clear HW1 HB1
    obtain ⟨k, hk, hgk, rfl, hS, hBw⟩ := hrel
    by_cases hkl : k < K
    · have hki : (k : Int) < (K : Int) := by omega
      have d1 : wr.cell? ⟨bX, k, none⟩ = some (.int .i32 (FB k : Int)) := (HG.out.below HbW.out hBw).sc k hkl
      have hFk := HGr.out.fb k hkl
      have d2 : wr.cell? ⟨bW, FB k, none⟩ = some (.int .i64 (Tj.cnt FB k (FB k) : Int)) := by rw [hS.cell, lints_at _ _ _ hFk]
      have f2 : wr.frozen? ⟨bW, FB k, none⟩ = false := hS.free _
      have hz : Tj.cnt FB k (FB k) ≤ 1024 := by have := Tj.cnt_le FB (FB k) k; omega
      have hS' : Blk (wr.setCell ⟨bW, FB k, none⟩ (.int .i64 ((Tj.cnt FB k (FB k) + 1 : Nat) : Int))) bW 3 (lints m (Tj.cnt FB (k + 1))) := by rw [← cnt_upd, ← lints_set]; exact hS.set _ _
      rw [Int.natCast_add, Int.natCast_one] at hS'
      have HS' : Hid (Blk (wr.setCell ⟨bW, FB k, none⟩ (.int .i64 ((Tj.cnt FB k (FB k) : Int) + 1))) bW 3 (lints m (Tj.cnt FB (k + 1)))) := hS'
      have HBw : Hid (Below bW w (wr.setCell ⟨bW, FB k, none⟩ (.int .i64 ((Tj.cnt FB k (FB k) : Int) + 1)))) := hBw.setCell (Nat.le_refl _) _
      generalize Tj.cnt FB k (FB k) = z at d2 hz HS' HBw
      generalize FB k = f at d1 hFk d2 f2 HS' HBw
      have hfi : (f : Int) < (m : Int) := by omega
      clear hS hBw hS'
      go_wp2
      go_roundg (gk - 1)
      case measure => omega
      case rel => exact ⟨k + 1, by omega, by omega, by go_num, HS'.out, HBw.out⟩
    · obtain rfl : K = k := by omega
      have hki : ¬ (K : Int) < (K : Int) := by omega
      have HS1 : Hid (Blk wr bW 3 (lints m (Tj.cnt FB K))) := hS
      have HB1 : Hid (Below bW w wr) := hBw
      have hlt : bW < wr.heap.size := hS.lt
      clear hS hBw hgk hkl
      go_upto_region 8 with fail
      obtain ⟨w2, hw2⟩ : ∃ z, z = wr.alloc (.cells #[.slice none 0 0] 56) := ⟨_, rfl⟩
      rw [← hw2]
      have HM2 : Hid (HM wr.heap.size (wr.heap.size + 1) (fun _ => 0) 0 (.slice none 0 0) w2) := by
        rw [hw2]
        exact ⟨Blk.new _ _ _, World.ownsRow_nil _ _ _ _, by omega, by simp⟩
      have HS2 : Hid (Blk w2 bW 3 (lints m (Tj.cnt FB K))) := by rw [hw2]; exact HS1.out.alloc _
      have HB2 : Hid (Below bW w w2) := by rw [hw2]; exact HB1.out.alloc (by omega) _
      clear hw2 HS1 HB1
      generalize wr.heap.size = hb at hlt HM2 ⊢
      go_wp2
      go_loopg [39] m (fun gk i wr => ∃ (k n : Nat) (F : Nat → Nat) (hv : Value), k ≤ m ∧ gk + k = m ∧ i = .int .i64 (k : Int) ∧ Fill F n k (Tj.cnt FB K) ∧ HM hb (hb + 1) F n hv wr ∧ Blk wr bW 3 (lints m (Tj.cnt FB K)) ∧ Below bW w wr)
      case atStart => exact ⟨0, 0, _, _, Nat.zero_le _, rfl, rfl, Fill.start _ _, HM2.out, HS2.out, HB2.out⟩
      case round =>
        clear HM2 HS2 HB2
        obtain ⟨k, n, F, hv, hkm, hgk, rfl, hF, hM, hS, hBw⟩ := hrel
        by_cases hkl : k < m
        · have hki : (k : Int) < (m : Int) := by omega
          have d1 : wr.cell? ⟨bW, k, none⟩ = some (.int .i64 (Tj.cnt FB K k : Int)) := by rw [hS.cell, lints_at _ _ _ hkl]
          have HF : Hid (Fill F n k (Tj.cnt FB K)) := hF
          have HM' : Hid (HM hb (hb + 1) F n hv wr) := hM
          have HS : Hid (Blk wr bW 3 (lints m (Tj.cnt FB K))) := hS
          have HB : Hid (Below bW w wr) := hBw
          by_cases h0 : Tj.cnt FB K k = 0
          · rw [h0] at d1
            have cb := hM.box.one
            have hsz := hM.sz
            have hnk := hF.len
            clear hF hM hS hBw
            obtain ⟨i2, hi2, hz20, hz21, hz22⟩ := info_parts info21
            go_wp2_with (at_builtin; refine wpList_append_lies _ rfl _ _ 56 rfl (hb + 1) 21 i2 (.int .i32 0) 1 4 Yba.underlying56 hi2 hz20 hz21 hz22 rfl (by decide) hv n (row F n) rfl (HM'.out.row.alloc _) ⟨wr.heap.size, 0, none⟩ 1 1 [.int .i32 (k : Int)] rfl rfl (cell_one_new _ _ _) (by intro u hu; simp at hu; subst hu; rfl) (by decide) (by unfold maxLen; omega) (by omega) (by simp; omega) _ rfl ?_; intro gq capq w6 hown6 hgrow6 hat6 _; have hA := push_res HM'.out hgrow6 hown6; have cb6 := hA.2.2.one; have fb6 := hA.2.2.free 0; have HA : Hid _ := hA; have HGW : Hid _ := hgrow6; clear hA hgrow6 hown6 hat6)
            have hA2 := HA.out.2.1
            go_roundg (gk - 1)
            case measure => omega
            case rel => exact ⟨k + 1, n + 1, _, _, by omega, by omega, by go_num, HF.out.yes h0, HA.out.1, blk_hfr HS.out hA2 (by omega) (fun e => by have := (HM'.out.row.lt bW e.symm).1; omega), below_hfr HB.out hA2 HM'.out (by omega)⟩
          · have h0i : ((Tj.cnt FB K k : Int) == 0) = false := by simpa using h0
            generalize Tj.cnt FB K k = z at d1 h0i
            clear hF hM hS hBw
            go_wp2
            go_roundg (gk - 1)
            case measure => omega
            case rel => exact ⟨k + 1, n, F, hv, by omega, by omega, by go_num, HF.out.no h0, HM'.out, HS.out, HB.out⟩
        · obtain rfl : m = k := by omega
          have hki : ¬ (m : Int) < (m : Int) := by omega
          have HF : Hid (Fill F n m (Tj.cnt FB K)) := hF
          have HM' : Hid (HM hb (hb + 1) F n hv wr) := hM
          have HS : Hid (Blk wr bW 3 (lints m (Tj.cnt FB K))) := hS
          have HB : Hid (Below bW w wr) := hBw
          have c0 : wr.cell? ⟨bg, 0, none⟩ = some (.slice pN m cN) := by rw [(HG.out.below HbW.out hBw).g.cell]; rfl
          clear hF hM hS hBw hgk hkl
          have hmk := fun W => make_int0 m (by omega) W
          go_upto_region 15 with fail
          clear c0 hmk
          have hsz := HM'.out.sz
          have hSM : SM bW bW hb w m (Kh.wt A (fun _ => false) m) F n hv (Kh.rdy A (fun _ => false) m) (.slice (some ⟨wr.heap.size, 0, none⟩) 0 m) (ordV U []) (wr.alloc (.cells (madeCells #[.int .i64 0] m) 3)) :=
            ⟨HB.out.alloc (by omega) _, by rw [lints_congr (f' := Tj.cnt FB K) (fun i hi => (HGr.out.first i).symm)]; exact HS.out.alloc _, ⟨HM'.out.box.alloc _, HM'.out.row.alloc _, HM'.out.lb, by simp; omega⟩, HF.out.isH, HF.out.last HGr.out, owns_made0 wr (hb + 1) m (by omega) (by omega), Nat.le_refl _, hlt⟩
          have HSM : Hid (SM bW bW hb w m (Kh.wt A (fun _ => false) m) F n hv (Kh.rdy A (fun _ => false) m) (.slice (some ⟨wr.heap.size, 0, none⟩) 0 m) (ordV U []) (wr.alloc (.cells (madeCells #[.int .i64 0] m) 3))) := hSM
          clear hSM HF HM' HS HB hsz
          generalize wr.alloc (.cells (madeCells #[.int .i64 0] m) 3) = w3 at HSM ⊢
          generalize wr.heap.size = go at HSM ⊢
          go_loopg [10] m (fun gk x wr => ∃ (ks : List Nat) (P : Nat → Bool) (F : Nat → Nat) (n : Nat) (hv : Value) (go co : Nat), gk + ks.length = m ∧ x = .slice (some ⟨go, 0, none⟩) ks.length co ∧ Kh.At A m ks P ∧ SM bW bW hb w m (Kh.wt A P m) F n hv (Kh.rdy A P m) (.slice (some ⟨go, 0, none⟩) ks.length co) (ordV U ks) wr)
          case atStart => exact ⟨[], _, F, n, hv, go, m, rfl, rfl, Kh.At.start A m, HSM.out⟩
          case round =>
            clear HSM
            obtain ⟨ks, P, F, n, hv, go, co, hgk, rfl, hAt, hSM⟩ := hrel
            have HSM : Hid (SM bW bW hb w m (Kh.wt A P m) F n hv (Kh.rdy A P m) (.slice (some ⟨go, 0, none⟩) ks.length co) (ordV U ks) wr) := hSM
            have HAt : Hid (Kh.At A m ks P) := hAt
            have cb := hSM.hm.box.one
            have c0 : wr.cell? ⟨bg, 0, none⟩ = some (.slice pN m cN) := by rw [(HG.out.below HbW.out hSM.bel).g.cell]; rfl
            cases n with
            | zero =>
              obtain ⟨ha, hc, rfl⟩ := owns_form hSM.hm.row
              have hord : Kh.ord A m = ks := hAt.stop (Kh.none_of hSM.of)
              have HO : Hid (Kh.ord A m = ks) := hord
              clear hSM hAt hord
              by_cases hfin : ks.length = m
              · have hfi : ¬ (ks.length : Int) < (m : Int) := by omega
                go_wp2
                go_ret2
                have hord := HO.out
                refine ⟨by rw [← HbW.out]; exact HSM.out.bel, fun _ => ⟨go, co, rfl, fun j hj => ?_⟩, fun h => absurd (by rw [hord]; exact hfin) h⟩
                have hod := HSM.out.od
                rw [ordV_length] at hod
                rw [hod.cellAt j (by omega), hord]
                simp [ordV, hfin, hj]
              · have hfi : (ks.length : Int) < (m : Int) := by omega
                go_wp2
                go_ret2
                have hord := HO.out
                exact ⟨by rw [← HbW.out]; exact HSM.out.bel, fun h => absurd (by rw [hord] at h; exact h) hfin, fun _ => rfl⟩
            | succ n =>
              obtain ⟨gh, ch, rfl, _, _⟩ := hSM.hm.row.form (by omega)
              have hv0 : Kh.rdy A P m (F 0) = true := (hSM.of.mem _).2 ⟨0, by omega, rfl⟩
              have hnm := of_le hSM.of rdy_lt
              have HV0 : Hid (Kh.rdy A P m (F 0) = true) := hv0
              have HFst : Hid (Kh.fst (Kh.rdy A P m) m = some (F 0)) := Kh.least_of hSM.ish hSM.of rdy_lt
              have hvm : F 0 < m := rdy_lt _ hv0
              obtain ⟨rfl, hnd⟩ := HG.out.nd (F 0) hvm
              clear hSM hAt hv0 hnd
              have hta := t_assert
              have hvi : (F 0 : Int) < (m : Int) := by omega
              obtain ⟨i3, hi3, hz30, hz31, hz32⟩ := info_parts info3
              go_wp2_with (first
                | (go_at_call 16; refine (hpop_any hb (hb + 1) n gh ch F (Kh.rdy A P m) _ HSM.out.hm (by omega) HSM.out.ish HSM.out.of).mono ?_; rintro e w4 ⟨rfl, F4, hv4, hM4, hI4, hO4, _, hF4⟩
                   have hS4 := HSM.out.heap hF4 hM4 hI4 hO4
                   have hG4 := HG.out.below HbW.out hS4.bel
                   have c04 : w4.cell? ⟨bg, 0, none⟩ = some (.slice (some ⟨bN, 0, none⟩) m cN) := (by rw [hG4.g.cell]; rfl)
                   have cn4 := (hG4.nd (F 0) hvm).2
                   have HS4 : Hid _ := hS4
                   have hsz4 := hM4.sz
                   have od4 : Hid (w4.ownsRow (hb + 1) 3 1 (.slice (some ⟨go, 0, none⟩) ks.length co) ks.length (ordV U ks)) := (by have := hS4.od; rw [ordV_length] at this; exact this)
                   clear hS4 hG4 hF4 hM4 hI4 hO4)
                | (at_builtin; refine wpList_append_lies _ rfl _ _ 26 rfl (hb + 1) 3 i3 (.int .i64 0) 1 8 Yba.underlying26 hi3 hz30 hz31 hz32 rfl (by decide) (.slice (some ⟨go, 0, none⟩) ks.length co) ks.length (ordV U ks) rfl (od4.out.alloc _) ⟨w4.heap.size, 0, none⟩ 1 1 [.int .i64 (U (F 0))] rfl rfl (cell_one_new _ _ _) (by intro u hu; simp at hu; subst hu; rfl) (by decide) (by unfold maxLen; omega) (by omega) (by simp; omega) _ rfl ?_; intro gq capq w5 hown5 hgrow5 hat5 _
                   have hS5 := HS4.out.push (by exact hgrow5) (by rw [ordV_length]; exact hown5)
                   have hG5 := HG.out.below HbW.out hS5.bel
                   have c25 : w5.cell? ⟨bg, 2, none⟩ = some (.slice (some ⟨bS, 0, none⟩) (m + 1) (m + 1)) := (by rw [hG5.g.cell]; rfl)
                   have c35 : w5.cell? ⟨bg, 3, none⟩ = some (.slice (some ⟨bX, 0, none⟩) K K) := (by rw [hG5.g.cell]; rfl)
                   have HS5 : Hid _ := hS5
                   have HG5 : Hid _ := hG5
                   clear hS5 hG5 hown5 hgrow5 hat5)
                | (go_at_call 17; refine (succ_any m K bS bX (F 0) (ST (F 0)) (ST (F 0 + 1)) _ hm hK hvm (HG5.out.st _ (by omega)) (HG5.out.st _ (by omega)) (HGr.out.mono _ hvm) (HGr.out.low _ (by omega)) HG5.out.lS).mono ?_; rintro e w6 ⟨off, csl, L, hL, rfl, hoff, hb6⟩
                   have HS6 : Hid _ := HS5.out.below hb6
                   clear hb6))
              clear c0 c04 cn4 c25 c35 hta cb hsz4 HSM HS4 HS5 od4 HG5
              have HL : Hid (ST (F 0) + L = ST (F 0 + 1)) := hL
              have HOff : Hid (0 < L → off = ST (F 0)) := hoff
              have hLK : L ≤ 1024 := by have := HGr.out.low (F 0 + 1) (by omega); omega
              clear hL hoff hi3 hz30 hz31 hz32
              have HS6' : Hid (SM bW bW hb w m (Kh.wt A P m) F4 n hv4 (rem (Kh.rdy A P m) (F 0)) (.slice (some ⟨gq, 0, none⟩) (ks.length + 1) capq) (ordV U (ks ++ [F 0])) w6) := by
                have := HS6.out
                rw [ordV_snoc, ordV_length] at this
                exact this
              clear HS6
              go_loopg [81] L (fun gk x wr => ∃ (d : Nat) (Wt F5 : Nat → Nat) (n5 : Nat) (hv5 : Value) (S5 : Nat → Bool), d ≤ L ∧ gk + d = L ∧ x = .int .i64 (d : Int) ∧ Kh.InL FB (ST (F 0)) (ST (F 0) + d) (Kh.wt A P m) (rem (Kh.rdy A P m) (F 0)) Wt S5 ∧ SM bW bW hb w m Wt F5 n5 hv5 S5 (.slice (some ⟨gq, 0, none⟩) (ks.length + 1) capq) (ordV U (ks ++ [F 0])) wr)
              case atStart => exact ⟨0, _, _, _, _, _, Nat.zero_le _, rfl, rfl, Kh.InL.start _ _ _ _, HS6'.out⟩
              case round =>
                clear HS6'
                obtain ⟨d, Wt, F5, n5, hv5, S5, hd, hgk2, rfl, hIn, hS5⟩ := hrel
                have HIn : Hid (Kh.InL FB (ST (F 0)) (ST (F 0) + d) (Kh.wt A P m) (rem (Kh.rdy A P m) (F 0)) Wt S5) := hIn
                have HS5 : Hid (SM bW bW hb w m Wt F5 n5 hv5 S5 (.slice (some ⟨gq, 0, none⟩) (ks.length + 1) capq) (ordV U (ks ++ [F 0])) wr) := hS5
                by_cases hdl : d < L
                · have hdi : (d : Int) < (L : Int) := by omega
                  obtain rfl : off = ST (F 0) := HOff.out (by omega)
                  have hlow := HGr.out.low (F 0 + 1) (by omega)
                  have hL' := HL.out
                  have hjK : ST (F 0) + d < K := by omega
                  have d1 : wr.cell? ⟨bX, ST (F 0) + d, none⟩ = some (.int .i32 (FB (ST (F 0) + d) : Int)) := (HG.out.below HbW.out hS5.bel).sc _ hjK
                  have hfm := HGr.out.fb _ hjK
                  have hfi : (FB (ST (F 0) + d) : Int) < (m : Int) := by omega
                  obtain ⟨hv1, hP, hw0⟩ := (Kh.rdy_iff A P m (F 0)).1 HV0.out
                  have hadj : A (F 0) (FB (ST (F 0) + d)) = true := (HGr.out.adj _ hvm _).2 ⟨ST (F 0) + d, by omega, by omega, rfl⟩
                  have hstep := Kh.wt_step A P m (F 0) (FB (ST (F 0) + d)) hvm hP
                  rw [if_pos hadj] at hstep
                  have hnot : ¬ Kh.seen FB (ST (F 0)) (ST (F 0) + d) (FB (ST (F 0) + d)) := fun ⟨i, h1, h2, h3⟩ => HGr.out.once (F 0) hvm i (ST (F 0) + d) h1 h2 (by omega) h3
                  have hrem : rem (Kh.rdy A P m) (F 0) (FB (ST (F 0) + d)) = false := by
                    cases hr : rem (Kh.rdy A P m) (F 0) (FB (ST (F 0) + d)) with
                    | false => rfl
                    | true =>
                      unfold rem at hr
                      simp only [Bool.and_eq_true] at hr
                      have := ((Kh.rdy_iff A P m _).1 hr.1).2.2
                      omega
                  obtain ⟨z, hz⟩ : ∃ z, Wt (FB (ST (F 0) + d)) = z + 1 := ⟨Wt (FB (ST (F 0) + d)) - 1, by rw [hIn.no _ hnot, hstep]; omega⟩
                  have hzb : z ≤ 512 := by
                    have h1 := hIn.no _ hnot
                    have h2 := Kh.wt_le A P (FB (ST (F 0) + d)) m
                    unfold Kh.wt at h1
                    omega
                  have HStep : Hid _ := hIn.step (by omega) hnot z hz hrem
                  have hn5 := of_le hS5.of (in_lt HGr.out (by omega) hIn)
                  have d2 : wr.cell? ⟨bW, FB (ST (F 0) + d), none⟩ = some (.int .i64 ((z : Int) + 1)) := by rw [hS5.wb.cell, lints_at _ _ _ hfm, hz]; rfl
                  have f2 : wr.frozen? ⟨bW, FB (ST (F 0) + d), none⟩ = false := hS5.wb.free _
                  have HS7 : Hid _ := hS5.wait (FB (ST (F 0) + d)) z
                  clear hIn hS5 hnot hrem hadj hstep hv1 hP hw0 hz
                  have hL3 : ST (F 0) + d + 1 = ST (F 0) + (d + 1) := by omega
                  by_cases hz0 : z = 0
                  · subst hz0
                    have HStep2 : Hid _ := HStep.out.1 rfl
                    have hfree := HStep.out.2.2
                    clear HStep
                    go_wp2_with (go_at_call 18; refine (hpush_any hb (hb + 1) n5 (FB (ST (F 0) + d)) F5 S5 hv5 _ HS7.out.hm (by omega) HS7.out.ish HS7.out.of hfree).mono ?_; rintro e w8 ⟨rfl, F8, hv8, hM8, hI8, hO8, _, hF8⟩; have HS8 : Hid _ := HS7.out.heap hF8 hM8 hI8 hO8; clear hM8 hI8 hO8 hF8)
                    go_roundg (gk - 1)
                    case measure => omega
                    case rel => exact ⟨d + 1, _, _, _, _, _, by omega, by omega, by go_num, by rw [← hL3]; exact HStep2.out, HS8.out⟩
                  · have HStep2 : Hid _ := HStep.out.2.1 hz0
                    have hzi : ((z : Int) == 0) = false := by simpa using hz0
                    clear HStep
                    go_wp2
                    go_roundg (gk - 1)
                    case measure => omega
                    case rel => exact ⟨d + 1, _, _, _, _, _, by omega, by omega, by go_num, by rw [← hL3]; exact HStep2.out, HS7.out⟩
                · obtain rfl : d = L := by omega
                  have hdi : ¬ (d : Int) < (d : Int) := by omega
                  obtain ⟨e1, e2⟩ := Kh.InL.stop HGr.out HAt.out HV0.out (by rw [← HL.out]; exact hIn)
                  subst e1 e2
                  have HAt' : Hid _ := HAt.out.step HFst.out
                  have hlen1 := HAt'.out.len
                  rw [List.length_append, List.length_singleton] at hlen1
                  clear hIn hS5
                  go_wp2
                  go_roundg (m - (ks.length + 1))
                  case measure => omega
                  case rel => exact ⟨ks ++ [F 0], _, _, _, _, gq, capq, by simp; omega, by simp, HAt'.out, by simpa using HS5.out⟩

end Go.Proofs.Ybulkcnjc
