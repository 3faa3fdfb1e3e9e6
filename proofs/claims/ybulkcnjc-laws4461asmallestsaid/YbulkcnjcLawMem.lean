/-
  LawS4461ASmallest: what lies in memory while it runs.
-/
import Derived.Test.YbulkcnjcBase
import Derived.Test.YbulkcnjcCsr
import Derived.Laws.CopyOwn
namespace Go.Proofs.Ybulkcnjc
open Go.RowKit Go.Deep
set_option linter.unusedVariables false

def row (F : Nat → Nat) (k : Nat) : List Value := nodes ((List.range k).map F)
theorem row_snoc (F : Nat → Nat) (k : Nat) : row F k ++ [.int .i32 (F k : Int)] = row F (k + 1) := by
  unfold row
  rw [List.range_succ, List.map_append, List.map_singleton]
  simp [nodes]
theorem row_at (F : Nat → Nat) (k i : Nat) (h : i < k) : (row F k)[i]? = some (.int .i32 (F i : Int)) := by simp [row, nodes, h]

theorem wrap_mod (a n : Nat) (ha : a < 256) : wrap32 ((a : Int) % (n : Int)) = ((a % n : Nat) : Int) := by
  have h1 : a % n ≤ a := Nat.mod_le _ _
  rw [← Int.natCast_emod]
  generalize a % n = z at h1
  unfold wrap32
  omega

/-- the two rows of ends, as far as they are built -/
structure LRows (base kf kt : Nat) (F T : Nat → Nat) (fv tv : Value) (w : World) : Prop where
  f : w.ownsRow base 21 1 fv kf (row F kf)
  t : w.ownsRow base 21 1 tv kt (row T kt)
  ap : ∀ b, fv.ownBlock = some b → tv.ownBlock ≠ some b
  sz : base ≤ w.heap.size

theorem LRows.nil (base : Nat) (F T : Nat → Nat) (w : World) (h : base ≤ w.heap.size) : LRows base 0 0 F T (.slice none 0 0) (.slice none 0 0) w :=
  ⟨World.ownsRow_nil _ _ _ _, World.ownsRow_nil _ _ _ _, fun b hb => by simp [Value.ownBlock] at hb, h⟩

theorem LRows.alloc {base kf kt : Nat} {F T : Nat → Nat} {fv tv : Value} {w : World} (h : LRows base kf kt F T fv tv w) (o : Obj) : LRows base kf kt F T fv tv (w.alloc o) :=
  ⟨h.f.alloc o, h.t.alloc o, h.ap, by have := h.sz; simp; omega⟩

theorem owns_apart {w w' : World} {base : Nat} {v u : Value} {n : Nat} {xs : List Value} (h : w.ownsRow base 21 1 u n xs) (hg : w.grownBy w' v.ownBlock) (ha : ∀ b, u.ownBlock = some b → v.ownBlock ≠ some b) : w'.ownsRow base 21 1 u n xs := by
  refine h.kept hg ?_
  cases hu : u.ownBlock with
  | none => exact Or.inl rfl
  | some b => exact Or.inr (fun e => ha b hu e.symm)

theorem LRows.pushF {base kf kt : Nat} {F T : Nat → Nat} {fv tv : Value} {w w' : World} {gb cap : Nat} (h : LRows base kf kt F T fv tv w) (hg : w.grownBy w' fv.ownBlock)
    (hown : w'.ownsRow base 21 1 (.slice (some ⟨gb, 0, none⟩) (kf + 1) cap) (kf + 1) (row F kf ++ [.int .i32 (F kf : Int)])) (hat : fv.ownBlock = some gb ∨ gb = w.heap.size) :
    LRows base (kf + 1) kt F T (.slice (some ⟨gb, 0, none⟩) (kf + 1) cap) tv w' := by
  rw [row_snoc] at hown
  refine ⟨hown, owns_apart h.t hg (fun b hb e => h.ap b e hb), ?_, by have := hg.size; have := h.sz; omega⟩
  intro b hb e
  simp only [Value.ownBlock, Option.some.injEq] at hb
  subst hb
  rcases hat with hat | hat
  · exact h.ap _ hat e
  · have := (h.t.lt _ e).2
    omega

theorem LRows.pushT {base kf kt : Nat} {F T : Nat → Nat} {fv tv : Value} {w w' : World} {gb cap : Nat} (h : LRows base kf kt F T fv tv w) (hg : w.grownBy w' tv.ownBlock)
    (hown : w'.ownsRow base 21 1 (.slice (some ⟨gb, 0, none⟩) (kt + 1) cap) (kt + 1) (row T kt ++ [.int .i32 (T kt : Int)])) (hat : tv.ownBlock = some gb ∨ gb = w.heap.size) :
    LRows base kf (kt + 1) F T fv (.slice (some ⟨gb, 0, none⟩) (kt + 1) cap) w' := by
  rw [row_snoc] at hown
  refine ⟨owns_apart h.f hg h.ap, hown, ?_, by have := hg.size; have := h.sz; omega⟩
  intro b hb e
  simp only [Value.ownBlock, Option.some.injEq] at e
  subst e
  rcases hat with hat | hat
  · exact h.ap _ hb hat
  · have := (h.f.lt _ hb).2
    omega

theorem below_own {w0 w w' : World} {base : Nat} {v : Value} {n : Nat} {xs : List Value} (hb : Below base w0 w) (hs : base ≤ w.heap.size) (h : w.ownsRow base 21 1 v n xs) (hg : w.grownBy w' v.ownBlock) : Below base w0 w' :=
  hb.grown hg hs (fun x hx => (h.lt x hx).1)

theorem LRows.pushF' {base kf kt : Nat} {F T : Nat → Nat} {fv tv : Value} {w w' : World} {gb cap : Nat} {z : Int} (h : LRows base kf kt F T fv tv w) (hg : w.grownBy w' fv.ownBlock)
    (hown : w'.ownsRow base 21 1 (.slice (some ⟨gb, 0, none⟩) (kf + 1) cap) (kf + 1) (row F kf ++ [.int .i32 z])) (hat : fv.ownBlock = some gb ∨ gb = w.heap.size) (hz : z = (F kf : Int)) :
    LRows base (kf + 1) kt F T (.slice (some ⟨gb, 0, none⟩) (kf + 1) cap) tv w' := by
  subst hz
  exact h.pushF hg hown hat

theorem LRows.pushT' {base kf kt : Nat} {F T : Nat → Nat} {fv tv : Value} {w w' : World} {gb cap : Nat} {z : Int} (h : LRows base kf kt F T fv tv w) (hg : w.grownBy w' tv.ownBlock)
    (hown : w'.ownsRow base 21 1 (.slice (some ⟨gb, 0, none⟩) (kt + 1) cap) (kt + 1) (row T kt ++ [.int .i32 z])) (hat : tv.ownBlock = some gb ∨ gb = w.heap.size) (hz : z = (T kt : Int)) :
    LRows base kf (kt + 1) F T fv (.slice (some ⟨gb, 0, none⟩) (kt + 1) cap) w' := by
  subst hz
  exact h.pushT hg hown hat

/-! ### rows of numbers, the matrix -/

def lints (n : Nat) (f : Nat → Nat) : Array Value := ((List.range n).map (fun v => Value.int .i64 (f v : Int))).toArray
theorem lints_at (n : Nat) (f : Nat → Nat) (i : Nat) (h : i < n) : (lints n f)[i]? = some (Value.int .i64 (f i : Int)) := by simp [lints, h]
theorem lints_set (n : Nat) (f : Nat → Nat) (i x : Nat) : (lints n f).setIfInBounds i (Value.int .i64 (x : Int)) = lints n (Tj.upd f i x) := by
  apply Array.ext
  · simp [lints]
  · intro j h1 h2
    have hj : j < n := by simpa [lints] using h2
    rw [Array.getElem_setIfInBounds (by simpa [lints] using hj)]
    by_cases e : i = j
    · subst e
      simp [lints, Tj.upd]
    · have : j ≠ i := fun h => e h.symm
      simp [lints, Tj.upd, e, this]
theorem made_lints (n : Nat) : madeCells #[Value.int .i64 0] n = lints n (fun _ => 0) := by
  apply Array.ext
  · simp [madeCells, lints]
  · intro i h1 h2
    simp [madeCells, lints, Nat.mod_one]
theorem lints_congr {n : Nat} {f f' : Nat → Nat} (h : ∀ i, i < n → f i = f' i) : lints n f = lints n f' := by
  unfold lints
  congr 1
  exact List.map_congr_left (fun i hi => by rw [h i (List.mem_range.1 hi)])

theorem row_form {w : World} {base m : Nat} {v : Value} {F : Nat → Nat} (h : w.ownsRow base 21 1 v m (row F m)) :
    ∃ fa fc fb, v = .slice fa m fc ∧ (0 < m → fb < w.heap.size) ∧ ∀ i, i < m → fa = some ⟨fb, 0, none⟩ ∧ w.cell? ⟨fb, i, none⟩ = some (.int .i32 (F i : Int)) := by
  by_cases hm : 0 < m
  · obtain ⟨fb, fc, rfl, hb, hlt⟩ := h.form hm
    have hc := h.cells (g := fb) rfl
    have add : ∀ j, (⟨fb, 0, none⟩ : Addr).add j = ⟨fb, j, none⟩ := by intro j; unfold Addr.add; split <;> simp_all
    refine ⟨_, fc, fb, rfl, fun _ => hlt, fun i hi => ⟨rfl, ?_⟩⟩
    have e := hc i _ (row_at F m i hi)
    rw [add] at e
    exact e
  · obtain rfl : m = 0 := by omega
    rcases h.2 with ⟨h1, _⟩ | ⟨g', cap', cur, h1, _⟩
    · exact ⟨none, 0, 0, h1, fun h => absurd h (Nat.lt_irrefl _), fun i hi => absurd hi (Nat.not_lt_zero _)⟩
    · exact ⟨_, cap', 0, h1, fun h => absurd h (Nat.lt_irrefl _), fun i hi => absurd hi (Nat.not_lt_zero _)⟩

def mat (n : Nat) (R : Nat → Nat → Bool) : Array Value := bools (n * n) (fun p => R (p / n) (p % n))
def upd2 (R : Nat → Nat → Bool) (a x : Nat) : Nat → Nat → Bool := fun b y => if b = a ∧ y = x then true else R b y

theorem cell_lt {n a x : Nat} (ha : a < n) (hx : x < n) : a * n + x < n * n := by
  have h1 : (a + 1) * n ≤ n * n := Nat.mul_le_mul_right n ha
  rw [Nat.add_mul, Nat.one_mul] at h1
  omega
theorem cell_div {n a x : Nat} (hx : x < n) : (a * n + x) / n = a := by
  rw [Nat.mul_comm, Nat.mul_add_div (by omega), Nat.div_eq_of_lt hx, Nat.add_zero]
theorem cell_mod {n a x : Nat} (hx : x < n) : (a * n + x) % n = x := by
  rw [Nat.mul_comm, Nat.mul_add_mod, Nat.mod_eq_of_lt hx]
theorem mat_at (n : Nat) (R : Nat → Nat → Bool) {a x : Nat} (ha : a < n) (hx : x < n) : (mat n R)[a * n + x]? = some (.bool (R a x)) := by
  unfold mat
  rw [bools_at _ _ _ (cell_lt ha hx), cell_div hx, cell_mod hx]
theorem mat_set (n : Nat) (R : Nat → Nat → Bool) {a x : Nat} (ha : a < n) (hx : x < n) : (mat n R).setIfInBounds (a * n + x) (.bool true) = mat n (upd2 R a x) := by
  unfold mat
  rw [bools_set]
  congr 1
  funext p
  have hp : n * (p / n) + p % n = p := Nat.div_add_mod p n
  by_cases e : p = a * n + x
  · subst e
    rw [Tj.upd_same, cell_div hx, cell_mod hx]
    simp [upd2]
  · rw [Tj.upd_other _ _ e]
    unfold upd2
    rw [if_neg]
    rintro ⟨h1, h2⟩
    rw [h1, h2, Nat.mul_comm] at hp
    exact e hp.symm
theorem mat_congr {n : Nat} {R R' : Nat → Nat → Bool} (h : ∀ a x, a < n → x < n → R a x = R' a x) : mat n R = mat n R' := by
  unfold mat bools
  congr 1
  refine List.map_congr_left (fun p hp => ?_)
  have hp := List.mem_range.1 hp
  have hn : 0 < n := by
    rcases Nat.eq_zero_or_pos n with h0 | h0
    · subst h0; simp at hp
    · exact h0
  exact congrArg Value.bool (h (p / n) (p % n) (Nat.div_lt_of_lt_mul hp) (Nat.mod_lt _ hn))
theorem made_mat (n : Nat) : madeCells #[Value.bool false] (n * n) = mat n (fun _ _ => false) := by
  rw [made_bools]; rfl

/-- the diagonal, up to i -/
def dg (i : Nat) : Nat → Nat → Bool := fun a x => decide (a = x) && decide (a < i)
theorem dg_step (i : Nat) : upd2 (dg i) i i = dg (i + 1) := by
  funext a x
  unfold upd2 dg
  by_cases h : a = i ∧ x = i
  · obtain ⟨rfl, rfl⟩ := h; simp
  · rw [if_neg h]
    by_cases e : a = x
    · subst e
      have : a ≠ i := fun e => h ⟨e, e⟩
      simp only [decide_true, Bool.true_and, decide_eq_decide]
      omega
    · simp [e]
theorem dg_last (F T : Nat → Nat) (n : Nat) {a x : Nat} (ha : a < n) : dg n a x = Tj.r0 F T 0 a x := by simp [dg, Tj.r0, ha]
theorem r0_step (F T : Nat → Nat) (k : Nat) : upd2 (Tj.r0 F T k) (F k) (T k) = Tj.r0 F T (k + 1) := by
  funext a x
  have hi := Tj.r0_iff F T (k + 1) a x
  have hk := Tj.r0_iff F T k a x
  unfold upd2
  by_cases h : a = F k ∧ x = T k
  · rw [if_pos h]
    exact (hi.2 (Or.inr ⟨k, by omega, h.1.symm, h.2.symm⟩)).symm
  · rw [if_neg h, Bool.eq_iff_iff, hi, hk]
    constructor
    · rintro (h | ⟨i, h1, h2⟩)
      · exact Or.inl h
      · exact Or.inr ⟨i, by omega, h2⟩
    · rintro (h' | ⟨i, h1, h2, h3⟩)
      · exact Or.inl h'
      · refine Or.inr ⟨i, ?_, h2, h3⟩
        by_cases e : i = k
        · subst e; exact absurd ⟨h2.symm, h3.symm⟩ h
        · omega

/-- the closure in place: in phase k, before cell (i, j) -/
def Wm (R0 : Nat → Nat → Bool) (k i j : Nat) : Nat → Nat → Bool := fun a x => if a < i ∨ (a = i ∧ x < j) then Tj.Wst R0 (k + 1) a x else Tj.Wst R0 k a x
theorem Wst_col (R0 : Nat → Nat → Bool) (k a : Nat) : Tj.Wst R0 (k + 1) a k = Tj.Wst R0 k a k := by
  simp only [Tj.Wst]; cases Tj.Wst R0 k a k <;> simp
theorem Wst_row (R0 : Nat → Nat → Bool) (k x : Nat) : Tj.Wst R0 (k + 1) k x = Tj.Wst R0 k k x := by
  simp only [Tj.Wst]; cases Tj.Wst R0 k k x <;> simp
theorem Wm_start (R0 : Nat → Nat → Bool) (k : Nat) : Wm R0 k 0 0 = Tj.Wst R0 k := by funext a x; simp [Wm]
theorem Wm_col (R0 : Nat → Nat → Bool) (k i j a : Nat) : Wm R0 k i j a k = Tj.Wst R0 k a k := by unfold Wm; split; exact Wst_col R0 k a; rfl
theorem Wm_row (R0 : Nat → Nat → Bool) (k i j x : Nat) : Wm R0 k i j k x = Tj.Wst R0 k k x := by unfold Wm; split; exact Wst_row R0 k x; rfl
theorem Wm_pass (R0 : Nat → Nat → Bool) (k i : Nat) (h : Tj.Wst R0 k i k = false) : Wm R0 k i 0 = Wm R0 k (i + 1) 0 := by
  funext a x
  unfold Wm
  by_cases e : a = i
  · subst e
    rw [if_neg (by omega), if_pos (by omega)]
    simp [Tj.Wst, h]
  · by_cases h2 : a < i
    · rw [if_pos (by omega), if_pos (by omega)]
    · rw [if_neg (by omega), if_neg (by omega)]
theorem Wm_yes (R0 : Nat → Nat → Bool) (k i j : Nat) (h : Tj.Wst R0 k i k = true) (hj : Tj.Wst R0 k k j = true) : upd2 (Wm R0 k i j) i j = Wm R0 k i (j + 1) := by
  funext a x
  unfold upd2 Wm
  by_cases e : a = i ∧ x = j
  · obtain ⟨rfl, rfl⟩ := e
    rw [if_pos ⟨rfl, rfl⟩, if_pos (by omega)]
    simp [Tj.Wst, h, hj]
  · rw [if_neg e]
    by_cases h2 : a < i ∨ (a = i ∧ x < j)
    · rw [if_pos h2, if_pos (by omega)]
    · rw [if_neg h2, if_neg (by omega)]
theorem Wm_no (R0 : Nat → Nat → Bool) (k i j : Nat) (hj : Tj.Wst R0 k k j = false) : Wm R0 k i j = Wm R0 k i (j + 1) := by
  funext a x
  unfold Wm
  by_cases e : a = i ∧ x = j
  · obtain ⟨rfl, rfl⟩ := e
    rw [if_neg (by omega), if_pos (by omega)]
    simp [Tj.Wst, hj]
  · by_cases h2 : a < i ∨ (a = i ∧ x < j)
    · rw [if_pos h2, if_pos (by omega)]
    · rw [if_neg h2, if_neg (by omega)]
theorem Wm_next (R0 : Nat → Nat → Bool) (k n i : Nat) : mat n (Wm R0 k i n) = mat n (Wm R0 k (i + 1) 0) := by
  refine mat_congr (fun a x ha hx => ?_)
  unfold Wm
  by_cases h2 : a < i ∨ (a = i ∧ x < n)
  · rw [if_pos h2, if_pos (by omega)]
  · rw [if_neg h2, if_neg (by omega)]
theorem Wm_end (R0 : Nat → Nat → Bool) (k n : Nat) : mat n (Wm R0 k n 0) = mat n (Tj.Wst R0 (k + 1)) := by
  refine mat_congr (fun a x ha hx => ?_)
  unfold Wm
  rw [if_pos (by omega)]

def lintsL (n : Nat) (f : Nat → Nat) : List Value := (List.range n).map (fun v => Value.int .i64 (f v : Int))
theorem lintsL_length (n : Nat) (f : Nat → Nat) : (lintsL n f).length = n := by simp [lintsL]
theorem lintsL_at (n : Nat) (f : Nat → Nat) (i : Nat) (v : Value) (h : (lintsL n f)[i]? = some v) : i < n ∧ v = .int .i64 (f i : Int) := by
  have hi : i < n := by
    by_cases hi : i < n
    · exact hi
    · rw [List.getElem?_eq_none (by rw [lintsL_length]; omega)] at h; cases h
  refine ⟨hi, ?_⟩
  simp [lintsL, hi] at h
  exact h.symm
theorem splice_all (n : Nat) (f f' : Nat → Nat) : splice (lintsL n f) 0 (lintsL n f') = lintsL n f' := by
  unfold splice
  rw [List.take_zero, List.nil_append, List.drop_of_length_le (by rw [lintsL_length, lintsL_length]; omega), List.append_nil]

theorem info3 : (Yba.prog.info? 3).map (fun i => (i.zero, i.size, i.bytes)) = some (some (.int .i64 0), 1, 8) := by kernel_rfl
theorem size3 : (Yba.prog.info? 3).map (·.size) = some 1 := by kernel_rfl

theorem idx_facts {n a x N : Nat} (hn : n ≤ 48) (hN : n * n = N) (ha : a < n) (hx : x < n) :
    (0 : Int) ≤ (a : Int) * (n : Int) ∧ (a : Int) * (n : Int) ≤ 2304 ∧ (a : Int) * (n : Int) + (x : Int) < (N : Int) ∧ ((a : Int) * (n : Int) + (x : Int)).toNat = a * n + x := by
  have h1 := cell_lt ha hx
  have h2 : a * n ≤ 48 * 48 := Nat.mul_le_mul (by omega) hn
  rw [hN] at h1
  rw [← Int.natCast_mul]
  generalize a * n = p at h1 h2
  omega

/-- the law's own test of a pair -/
def Pair (n m : Nat) (F T : Nat → Nat) (t : Int) (v u : Nat) : Prop := u ≠ v ∧ (u : Int) < t ∧ Tj.Wst (Tj.r0 F T m) n v u = true ∧ Tj.Wst (Tj.r0 F T m) n u v = true

theorem good_iff (n m : Nat) (F T : Nat → Nat) (t : Int) (hT : ∀ i, i < m → T i < n) (v : Nat) :
    Tj.Good (Tj.csr n m F T) t v ↔ v < n ∧ (v : Int) < t ∧ ∃ u, u < n ∧ Pair n m F T t v u := by
  unfold Tj.Good Pair
  show (v < n ∧ _) ↔ _
  constructor
  · rintro ⟨h1, h2, u, h3, h4, h5, h6, h7⟩
    have h3' : u < n := h3
    exact ⟨h1, h2, u, h3', h4, h5, (Tj.r0_reach n m F T hT h1).2 h6, (Tj.r0_reach n m F T hT h3').2 h7⟩
  · rintro ⟨h1, h2, u, h3, h4, h5, h6, h7⟩
    exact ⟨h1, h2, u, h3, h4, h5, (Tj.r0_reach n m F T hT h1).1 h6, (Tj.r0_reach n m F T hT h3).1 h7⟩

end Go.Proofs.Ybulkcnjc
