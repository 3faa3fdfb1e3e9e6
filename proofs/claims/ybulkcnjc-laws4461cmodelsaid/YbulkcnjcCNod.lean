/-
  The nodes: sorted, each once; the map of their places.
-/
import Derived.Test.YbulkcnjcCSeq
import Derived.Test.YbulkcnjcCCompE
import Derived.Lib.RowBridge
import Derived.Maps.RangeWalk
import Derived.Maps.Ext
namespace Go.Proofs.Ybulkcnjc
open Go.RowKit Go.Deep
set_option linter.unusedVariables false
attribute [local go_sem ↓] Go.wp_at_zero Go.wp_at_succ

def sortL (zs : List Int) : List Int := zs.mergeSort fun x y => decide (x ≤ y)
def uList (zs : List Int) : List Int := Lib.compact (sortL zs)

theorem sortL_pw (zs : List Int) : (sortL zs).Pairwise (fun a b => a ≤ b) := by
  have h := List.pairwise_mergeSort (le := fun (x y : Int) => decide (x ≤ y)) (fun a b c h1 h2 => by simp at *; omega) (fun a b => by simp; omega) zs
  exact List.pairwise_iff_getElem.2 (fun i j hi hj hij => by have := List.pairwise_iff_getElem.1 h i j hi hj hij; exact of_decide_eq_true this)

theorem uList_pw (zs : List Int) : (uList zs).Pairwise (fun a b => a < b) := by
  unfold uList Lib.compact Lib.compactUpTo
  rw [List.pairwise_map, List.pairwise_filter]
  have hs := List.pairwise_iff_getElem.1 (sortL_pw zs)
  refine List.pairwise_iff_getElem.2 (fun i j hi hj hij _ hk => ?_)
  have hj' : j < (sortL zs).length := by simpa using hj
  have hi' : i < (sortL zs).length := by simpa using hi
  simp only [List.getElem_range] at hk ⊢
  unfold Lib.keeps at hk
  have hne : (sortL zs).toArray[j]! ≠ (sortL zs).toArray[j - 1]! := by
    have := of_decide_eq_true hk
    rcases this with h | h
    · omega
    · exact h
  rw [getElem!_pos (sortL zs).toArray j (by simpa using hj'), getElem!_pos (sortL zs).toArray (j - 1) (by simp; omega)] at hne
  rw [getElem!_pos (sortL zs).toArray j (by simpa using hj'), getElem!_pos (sortL zs).toArray i (by simpa using hi')]
  simp only [List.getElem_toArray] at hne ⊢
  have h1 : (sortL zs)[j - 1] ≤ (sortL zs)[j] := hs _ _ (by omega) hj' (by omega)
  by_cases e : i = j - 1
  · subst e; omega
  · have h2 : (sortL zs)[i] ≤ (sortL zs)[j - 1] := hs _ _ hi' (by omega) (by omega)
    omega

theorem uList_len (zs : List Int) : (uList zs).length ≤ zs.length := by
  have h := Lib.compact_length_le (sortL zs)
  have h2 : (sortL zs).length = zs.length := by simp [sortL]
  unfold uList
  omega

theorem uList_mem (zs : List Int) {x : Int} (h : x ∈ uList zs) : x ∈ zs := by
  unfold uList Lib.compact Lib.compactUpTo at h
  rw [List.mem_map] at h
  obtain ⟨j, hj, rfl⟩ := h
  have hj' : j < (sortL zs).length := List.mem_range.1 (List.mem_filter.1 hj).1
  rw [getElem!_pos (sortL zs).toArray j (by simpa using hj')]
  simp only [List.getElem_toArray]
  have : (sortL zs)[j] ∈ sortL zs := List.getElem_mem hj'
  unfold sortL at this ⊢
  exact List.mem_mergeSort.1 this

theorem uList_inc (zs : List Int) (i j : Nat) (hij : i < j) (hj : j < (uList zs).length) : (uList zs).getD i 0 < (uList zs).getD j 0 := by
  have := List.pairwise_iff_getElem.1 (uList_pw zs) i j (by omega) hj hij
  simpa [List.getD, List.getElem?_eq_getElem (show i < (uList zs).length by omega), List.getElem?_eq_getElem hj] using this

def NodRes (base : Nat) (us : List Int) (w : World) (e : Ending) (w' : World) : Prop :=
  ∃ p c bN, e = .returned (.slice p us.length c) ∧ (∀ i, i < us.length → p = some ⟨bN, 0, none⟩ ∧ w'.cell? ⟨bN, i, none⟩ = some (.int .i64 (us.getD i 0))) ∧ (0 < us.length → base ≤ bN ∧ bN < w'.heap.size) ∧ Below base w w'

theorem compactI_own (base : Nat) (v : Value) (zs : List Int) (w : World) (hown : w.ownsRow base 3 1 v zs.length (zs.map (Value.int .i64))) (hlen : zs.length ≤ 100000) (hbase : base ≤ w.heap.size) :
    Calls Yba.prog 14 #[v] w fun e w' => NodRes base (Lib.compact zs) w e w' := by
  rcases hown.2 with ⟨rfl, hz⟩ | ⟨g, cap, cur, rfl, hbg, hg, r1, r2, r3, r4⟩
  · obtain rfl : zs = [] := List.eq_nil_of_length_eq_zero hz
    refine (Yba.slices_Compact_int_empty none 0 w).mono ?_
    rintro e w' ⟨rfl, rfl⟩
    exact ⟨none, 0, 0, rfl, fun i hi => absurd hi (Nat.not_lt_zero _), fun h => absurd h (Nat.lt_irrefl _), Below.refl _ _⟩
  · have hH : Sort.Holds (Value.int .i64) w g 0 zs.toArray := holds_of_blockI hg (by simpa using r4)
    refine (Yba.slices_Compact_int g 0 cap zs w hH (by omega) r1).mono ?_
    rintro e w' ⟨rfl, q, rfl⟩
    have hl := Lib.compact_length_le zs
    have hH2 := Sort.holds_putRow (Value.int .i64) (Sort.ahead w q) g 0 zs.toArray (Lib.compact zs ++ List.replicate (zs.length - (Lib.compact zs).length) 0).toArray hH (by simp; omega)
    have hgr := grownBy_sortedI (w := w) (g := g) (n := q) (os := #[]) (Lib.compact zs ++ List.replicate (zs.length - (Lib.compact zs).length) 0).toArray
    rw [Sort.grow_empty] at hgr
    have hglt : g < w.heap.size := (Array.getElem?_eq_some_iff.1 hg).1
    refine ⟨_, cap, g, rfl, fun i hi => ⟨rfl, ?_⟩, fun _ => ⟨hbg, Nat.lt_of_lt_of_le hglt hgr.size⟩, (Below.refl _ _).grown hgr hbase (fun x hx => by cases hx; exact hbg)⟩
    have := (hH2 i (by simp; omega)).1
    rw [Nat.zero_add] at this
    rw [this, getElem!_pos _ i (by simp; omega)]
    simp [List.getElem_append_left, hi]

/-! ### the map of the places -/
open Go.Maps Go.ChangeMaps Go.WideMaps

theorem law3 : Keyed Yba.prog 3 := int_keyed Yba.underlying3
def kL (U : Nat → Int) (i : Nat) : Lit := .int .i64 (U i)
def Rv (v : Value) : Option (DataW Value × List MemPlace) := some (.held v, [])

structure UOk (U : Nat → Int) (m : Nat) : Prop where
  wf : ∀ i, i < m → (Lit.int .i64 (U i)).wf = true
  inc : ∀ i j, i < j → j < m → U i < U j
theorem UOk.inj {U : Nat → Int} {m : Nat} (h : UOk U m) {i j : Nat} (hi : i < m) (hj : j < m) (e : U i = U j) : i = j := by
  rcases Nat.lt_trichotomy i j with h' | h' | h'
  · have := h.inc i j h' hj; omega
  · exact h'
  · have := h.inc j i h' hi; omega
theorem UOk.key {U : Nat → Int} {m : Nat} (h : UOk U m) {i : Nat} (hi : i < m) : keyOf Yba.prog 3 (.int .i64 (U i)) = some (kL U i) := keyOf_int_mk Yba.underlying3 (h.wf i hi)
theorem UOk.lit {U : Nat → Int} {m : Nat} (h : UOk U m) {i : Nat} (hi : i < m) : WideAt.IsKeyLit (kL U i) := law3.key (h.key hi)

/-- block b is a map in which the first k nodes have their places -/
def MapIx (U : Nat → Int) (b k : Nat) (w : World) : Prop := ∃ D, w.ownsMap Yba.prog 3 Rv b k D ∧ ∀ i, i < k → ∀ z, D.atKey (kL U i) z = .held (.int .i32 (i : Int))

section
variable {w w' : World} {b k m : Nat} {U : Nat → Int}
theorem MapIx.made (U : Nat → Int) (w : World) : MapIx U w.heap.size 0 (w.alloc (.map #[] 0)) := ⟨_, World.ownsMap_made w Yba.prog 3 Rv, fun i hi => absurd hi (Nat.not_lt_zero _)⟩
theorem MapIx.lt (h : MapIx U b k w) : b < w.heap.size := let ⟨_, h, _⟩ := h; h.lt
theorem MapIx.grown {row : Option Nat} (h : MapIx U b k w) (hg : w.grownBy w' row) (hne : some b ≠ row) : MapIx U b k w' := let ⟨D, h, hr⟩ := h; ⟨D, h.kept hg hne, hr⟩
theorem MapIx.alloc (h : MapIx U b k w) (o : Obj) : MapIx U b k (w.alloc o) := let ⟨D, h, hr⟩ := h; ⟨D, h.alloc o, hr⟩
theorem MapIx.drew (h : MapIx U b k w) : MapIx U b k w.drew := let ⟨D, h, hr⟩ := h; ⟨D, h.drew, hr⟩
theorem MapIx.other (h : MapIx U b k w) {a : Addr} (ha : b ≠ a.block) (u : Value) : MapIx U b k (w.setCell a u) := let ⟨D, h, hr⟩ := h; ⟨D, h.setCell ha u, hr⟩
theorem MapIx.block (h : MapIx U b k w) (hb : w'.heap[b]? = w.heap[b]?) : MapIx U b k w' := by
  obtain ⟨D, h, hr⟩ := h
  obtain ⟨es, clock, hbk, r⟩ := h
  exact ⟨D, ⟨es, clock, hb.trans hbk, r⟩, hr⟩

theorem MapIx.look (h : MapIx U b k w) (ho : UOk U m) {i : Nat} (hi : i < k) (hm : i < m) :
    (Instr.lookup 83 (.map (some b)) (.int .i64 (U i)) false).run Yba.prog w = .ok (.int .i32 (i : Int)) w := by
  obtain ⟨D, hown, hr⟩ := h
  obtain ⟨v, ps, hrun, hv⟩ := hown.lookup law3 Yba.underlying83 (Yba.zeroValue21 w) (zd := .held (.int .i32 0)) (zp := []) rfl (ho.key hm)
  rw [hrun]
  simp only [Rv, Option.some.injEq, Prod.mk.injEq] at hv
  rw [hr i hi] at hv
  have e := DataW.held.inj hv.1
  rw [e]

theorem MapIx.update (h : MapIx U b k w) (ho : UOk U m) (hk : k < m) (hm : m ≤ 100000) :
    ∃ w', (Instr.mapUpdate 83 (.map (some b)) (.int .i64 (U k)) (.int .i32 (k : Int))).run Yba.prog w = .ok () w' ∧ MapIx U b (k + 1) w' ∧ w.grownBy w' (some b) ∧ w'.heap.size = w.heap.size := by
  obtain ⟨D, hown, hr⟩ := h
  obtain ⟨w', hrun, h1, h2⟩ := hown.store law3 Yba.underlying83 (by unfold maxLen; omega) (ho.key hk) (val := .int .i32 (k : Int)) (d := .held (.int .i32 (k : Int))) (ps := []) rfl
  have hT := hown.tidy law3
  refine ⟨w', hrun, ⟨_, h1, fun i hi z => ?_⟩, h2.grown, ?_⟩
  · by_cases e : i = k
    · subst e
      rw [atKey_put_same hT.isMap (ho.lit hk)]
    · rw [atKey_put_other (fun e' => e (ho.inj (by omega) hk (by simpa [kL] using e')))]
      exact hr i (by omega) z
  · obtain ⟨_, _, _, _, _, rfl⟩ := h2
    simp [setBlock]
end

theorem make_map (n : Int) (W : World) : (Instr.makeMap 83 (some (.int .i64 n))).run Yba.prog W = .ok (.map (some W.heap.size)) (W.alloc (.map #[] 0)) := by
  simp [Instr.makeMap, run_underlying Yba.underlying83]
  rfl

theorem wpList_update_ix (w : World) {ops : Array Oper} {rest : List Oper} {o : Oper} {a : Act} {Q : Exit → Act → World → Prop} (hg : o.guard = none) (m x v : Operand) (hop : o.op = Op.mapUpdate 83 m x v)
    (b k mm : Nat) (U : Nat → Int) (hm : a.eval m = .map (some b)) (h : MapIx U b k w) (ho : UOk U mm) (hk : k < mm) (hmm : mm ≤ 100000) (hx : a.eval x = .int .i64 (U k)) (hv : a.eval v = .int .i32 (k : Int))
    (hK : ∀ w', MapIx U b (k + 1) w' → w.grownBy w' (some b) → w'.heap.size = w.heap.size → wpList Yba.prog ops Q rest (a.put o.dst undef) w') : wpList Yba.prog ops Q (o :: rest) a w := by
  refine wpList_plain hg fun K' hK' => ?_
  obtain ⟨w', hrun, h1, h2, h3⟩ := h.update ho hk hmm
  unfold Oper.wp
  simp [execOp, hop, hm, hx, hv, hrun, Result.andThen]
  exact hK' _ _ (hK w' h1 h2 h3)

end Go.Proofs.Ybulkcnjc
