/-
  The maps of the process: what a block that is a map holds, id by id.
-/
import Derived.Test.YbulkcnkeRows
import Derived.WalkKit
import Derived.WalkSpells
import Derived.Maps.RangeWalk
import Derived.Maps.Ext
namespace Go.Proofs.Ybulkcnke
open Go.RowKit Go.Maps Go.ChangeMaps Go.WideMaps
set_option linter.unusedVariables false

/-- the i-th id -/
def idB (i : Nat) : ByteArray := ⟨#[115, UInt8.ofNat (97 + i / 26), UInt8.ofNat (97 + i % 26)]⟩
def idL (i : Nat) : Lit := .string (idB i).data.toList

theorem idL_inj {i j : Nat} (hi : i < 48) (hj : j < 48) (h : idL i = idL j) : i = j := by
  simp only [idL, idB, Lit.string.injEq, List.cons.injEq, and_true, true_and] at h
  have h1 := congrArg UInt8.toNat h.1
  have h2 := congrArg UInt8.toNat h.2
  simp only [UInt8.toNat_ofNat'] at h1 h2
  omega

theorem law9 : Keyed Yba.prog 9 := string_keyed Yba.underlying9
theorem key_id (i : Nat) : keyOf Yba.prog 9 (.string (idB i)) = some (idL i) := keyOf_string_mk Yba.underlying9 (by simp [idB, ByteArray.size, maxLen])
theorem lit_id (i : Nat) : WideAt.IsKeyLit (idL i) := law9.key (key_id i)

/-- how an element reads: as itself -/
def Rv (v : Value) : Option (DataW Value × List MemPlace) := some (.held v, [])

def cntF (f : Nat → Option Value) : Nat := (List.range 48).countP (fun i => (f i).isSome)
def updF (f : Nat → Option Value) (i : Nat) (v : Value) : Nat → Option Value := fun j => if j = i then some v else f j

theorem cntF_le (f : Nat → Option Value) : cntF f ≤ 48 := by
  have := List.countP_le_length (p := fun i => (f i).isSome) (l := List.range 48)
  simpa [cntF] using this

theorem countP_upd (f : Nat → Option Value) (i : Nat) (v : Value) : ∀ n, (List.range n).countP (fun j => (updF f i v j).isSome) = (List.range n).countP (fun j => (f j).isSome) + (if i < n ∧ (f i).isSome = false then 1 else 0)
  | 0 => by simp
  | n + 1 => by
    rw [List.range_succ, List.countP_append, List.countP_append, countP_upd f i v n]
    simp only [List.countP_cons, List.countP_nil, updF]
    by_cases e : n = i
    · subst e
      cases h : (f n).isSome <;> simp
    · have e1 : (i < n + 1 ∧ (f i).isSome = false) ↔ (i < n ∧ (f i).isSome = false) := by
        constructor
        · rintro ⟨h1, h2⟩; exact ⟨by omega, h2⟩
        · rintro ⟨h1, h2⟩; exact ⟨by omega, h2⟩
      simp only [e1, e, if_false]
      omega

theorem cntF_upd (f : Nat → Option Value) {i : Nat} (hi : i < 48) (v : Value) : cntF (updF f i v) = if (f i).isSome then cntF f else cntF f + 1 := by
  unfold cntF
  rw [countP_upd]
  cases h : (f i).isSome <;> simp [hi]

/-- the reading D holds just what f says -/
structure Reads (D : DataW Value) (f : Nat → Option Value) : Prop where
  keys : ∀ kl, has D kl = true → ∃ i, i < 48 ∧ kl = idL i
  dom : ∀ i, i < 48 → has D (idL i) = (f i).isSome
  at_ : ∀ i v, i < 48 → f i = some v → ∀ z, D.atKey (idL i) z = .held v
  size : Maps.size D = cntF f

/-- block b is a map that holds f -/
def MapIs (w : World) (b : Nat) (f : Nat → Option Value) : Prop := ∃ D, w.ownsMap Yba.prog 9 Rv b 48 D ∧ Reads D f

theorem Reads.put {D : DataW Value} {f : Nat → Option Value} (h : Reads D f) (hT : Tidy D) {i : Nat} (hi : i < 48) (v : Value) : Reads (D.put (idL i) (.held v)) (updF f i v) := by
  refine ⟨fun kl hk => ?_, fun j hj => ?_, fun j u hj hu z => ?_, ?_⟩
  · by_cases e : kl = idL i
    · exact ⟨i, hi, e⟩
    · rw [has_put_other e] at hk
      exact h.keys kl hk
  · by_cases e : j = i
    · subst e
      rw [has_put_same hT.isMap (lit_id j)]
      simp [updF]
    · rw [has_put_other (fun e' => e (idL_inj hj hi e')), h.dom j hj]
      simp [updF, e]
  · by_cases e : j = i
    · subst e
      rw [atKey_put_same hT.isMap (lit_id j)]
      simp [updF] at hu
      rw [hu]
    · rw [atKey_put_other (fun e' => e (idL_inj hj hi e'))]
      exact h.at_ j u hj (by simpa [updF, e] using hu) z
  · rw [size_put hT, h.dom i hi, h.size, cntF_upd f hi]

theorem Reads.empty : Reads (.map []) (fun _ => none) := by
  refine ⟨?_, fun i _ => rfl, ?_, ?_⟩
  · intro kl hk; cases hk
  · intro i v _ h; cases h
  · show 0 = cntF _
    simp [cntF]

theorem ownsMap_tight {P : Program} {k : TypeId} {H : Type} {R : Value → Option (DataW H × List MemPlace)} {w : World} {b n : Nat} {D : DataW H} (h : w.ownsMap P k R b n D) : w.ownsMap P k R b (Maps.size D) D := by
  obtain ⟨es, clock, hb, F, hs, rfl⟩ := h
  exact ⟨es, clock, hb, F, by simp [Maps.size, length_sorted], rfl⟩

section
variable {w w' : World} {b : Nat} {f : Nat → Option Value}

theorem MapIs.made (w : World) : MapIs (w.alloc (.map #[] 0)) w.heap.size (fun _ => none) := ⟨_, (World.ownsMap_made w Yba.prog 9 Rv).mono (by omega), Reads.empty⟩
theorem MapIs.lt (h : MapIs w b f) : b < w.heap.size := let ⟨_, h, _⟩ := h; h.lt
theorem MapIs.grown {row : Option Nat} (h : MapIs w b f) (hg : w.grownBy w' row) (hne : some b ≠ row) : MapIs w' b f := let ⟨D, h, hr⟩ := h; ⟨D, h.kept hg hne, hr⟩
theorem MapIs.alloc (h : MapIs w b f) (o : Obj) : MapIs (w.alloc o) b f := let ⟨D, h, hr⟩ := h; ⟨D, h.alloc o, hr⟩
theorem MapIs.drew (h : MapIs w b f) : MapIs w.drew b f := let ⟨D, h, hr⟩ := h; ⟨D, h.drew, hr⟩
theorem MapIs.other (h : MapIs w b f) {a : Addr} (ha : b ≠ a.block) (u : Value) : MapIs (w.setCell a u) b f := let ⟨D, h, hr⟩ := h; ⟨D, h.setCell ha u, hr⟩
theorem MapIs.below {B : Nat} (h : MapIs w b f) (hb : Below B w w') (hB : b < B) : MapIs w' b f := by
  obtain ⟨D, h, hr⟩ := h
  obtain ⟨es, clock, hbk, r⟩ := h
  exact ⟨D, ⟨es, clock, (hb.block b hB).trans hbk, r⟩, hr⟩

theorem MapIs.look (h : MapIs w b f) {t e : TypeId} (ht : Yba.prog.underlying t = some (.map 9 e)) {z : Value} (hz : (zeroValue e).run Yba.prog w = .ok z w) {i : Nat} (hi : i < 48) :
    (Instr.lookup t (.map (some b)) (.string (idB i)) false).run Yba.prog w = .ok ((f i).getD z) w := by
  obtain ⟨D, hown, hr⟩ := h
  obtain ⟨v, ps, hrun, hv⟩ := hown.lookup law9 ht hz (zd := .held z) (zp := []) rfl (key_id i)
  rw [hrun]
  simp only [Rv, Option.some.injEq, Prod.mk.injEq] at hv
  cases hf : f i with
  | none =>
    have : has D (idL i) = false := by rw [hr.dom i hi, hf]; rfl
    rw [atKey_of_not_has this] at hv
    have e := DataW.held.inj hv.1
    subst e
    simp
  | some u =>
    rw [hr.at_ i u hi hf] at hv
    have e := DataW.held.inj hv.1
    subst e
    simp

theorem MapIs.look_ok (h : MapIs w b f) {t e : TypeId} (ht : Yba.prog.underlying t = some (.map 9 e)) {z : Value} (hz : (zeroValue e).run Yba.prog w = .ok z w) {i : Nat} (hi : i < 48) :
    (Instr.lookup t (.map (some b)) (.string (idB i)) true).run Yba.prog w = .ok (.tuple #[(f i).getD z, .bool (f i).isSome]) w := by
  obtain ⟨D, hown, hr⟩ := h
  obtain ⟨v, ps, hrun, hv⟩ := hown.look_ok law9 ht hz (zd := .held z) (zp := []) rfl (key_id i)
  rw [hrun, hr.dom i hi]
  simp only [Rv, Option.some.injEq, Prod.mk.injEq] at hv
  cases hf : f i with
  | none =>
    have : has D (idL i) = false := by rw [hr.dom i hi, hf]; rfl
    rw [atKey_of_not_has this] at hv
    have e := DataW.held.inj hv.1
    subst e
    simp
  | some u =>
    rw [hr.at_ i u hi hf] at hv
    have e := DataW.held.inj hv.1
    subst e
    simp

theorem MapIs.len (h : MapIs w b f) {t e : TypeId} (ht : Yba.prog.underlying t = some (.map 9 e)) (ty : TypeId) : (Builtin.len_ #[t] ty #[.map (some b)]).run Yba.prog w = .ok (.int .i64 (cntF f)) w := by
  obtain ⟨D, hown, hr⟩ := h
  rw [hown.len ht ty, hr.size]

theorem MapIs.update (h : MapIs w b f) {t e : TypeId} (ht : Yba.prog.underlying t = some (.map 9 e)) {i : Nat} (hi : i < 48) (v : Value) :
    ∃ w', (Instr.mapUpdate t (.map (some b)) (.string (idB i)) v).run Yba.prog w = .ok () w' ∧ MapIs w' b (updF f i v) ∧ w.grownBy w' (some b) ∧ w'.heap.size = w.heap.size := by
  obtain ⟨D, hown, hr⟩ := h
  obtain ⟨w', hrun, h1, h2⟩ := hown.store law9 ht (by unfold maxLen; omega) (key_id i) (val := v) (d := .held v) (ps := []) rfl
  have hR := hr.put (hown.tidy law9) hi v
  refine ⟨w', hrun, ⟨_, (ownsMap_tight h1).mono (by rw [hR.size]; exact cntF_le _), hR⟩, h2.grown, ?_⟩
  obtain ⟨_, _, _, _, _, rfl⟩ := h2
  simp [setBlock]

/-- 'for c := range m' under way: left i: is the entry at i still to come? -/
def RangeIs (w : World) (b r : Nat) (f : Nat → Option Value) (left : Nat → Bool) (cnt : Nat) : Prop :=
  ∃ D lf, w.ranges Yba.prog 9 Rv b r 48 D lf cnt ∧ Reads D f ∧ (∀ i, i < 48 → lf (idL i) = left i) ∧ (∀ kl, lf kl = true → has D kl = true)

theorem RangeIs.is {r : Nat} {left : Nat → Bool} {cnt : Nat} (h : RangeIs w b r f left cnt) : MapIs w b f := let ⟨D, _, h, hr, _⟩ := h; ⟨D, h.owns, hr⟩
theorem RangeIs.grown {row : Option Nat} {r : Nat} {left : Nat → Bool} {cnt : Nat} (h : RangeIs w b r f left cnt) (hg : w.grownBy w' row) (h1 : some b ≠ row) (h2 : some r ≠ row) : RangeIs w' b r f left cnt :=
  let ⟨D, lf, h, hr⟩ := h; ⟨D, lf, h.kept hg h1 h2, hr⟩
theorem RangeIs.lt {r : Nat} {left : Nat → Bool} {cnt : Nat} (h : RangeIs w b r f left cnt) : r < w.heap.size := let ⟨D, _, h, _⟩ := h; h.lt
theorem RangeIs.ne {r : Nat} {left : Nat → Bool} {cnt : Nat} (h : RangeIs w b r f left cnt) : r ≠ b := let ⟨D, _, h, _⟩ := h; h.ne
theorem RangeIs.drew {r : Nat} {left : Nat → Bool} {cnt : Nat} (h : RangeIs w b r f left cnt) : RangeIs w.drew b r f left cnt := h

theorem MapIs.range (h : MapIs w b f) {t e : TypeId} (ht : Yba.prog.underlying t = some (.map 9 e)) :
    ∃ w', (Instr.range t (.map (some b))).run Yba.prog w = .ok (.pointer (some ⟨w.heap.size, 0, none⟩)) w' ∧ RangeIs w' b w.heap.size f (fun i => (f i).isSome) (cntF f) ∧ w.grownBy w' none ∧ w'.heap.size = w.heap.size + 1 := by
  obtain ⟨D, hown, hr⟩ := h
  obtain ⟨w', h1, h2, h3, h4⟩ := hown.range law9 ht
  exact ⟨w', h1, ⟨D, _, hr.size ▸ h2, hr, fun i hi => hr.dom i hi, fun kl hk => hk⟩, h3, h4⟩

theorem RangeIs.next {r : Nat} {left : Nat → Bool} {cnt : Nat} (h : RangeIs w b r f left cnt) (ty : TypeId) :
    ((∀ i, i < 48 → left i = false) ∧ (Instr.next (.pointer (some ⟨r, 0, none⟩)) false ty).run Yba.prog w = .ok (.tuple #[.bool false]) w) ∨
    ∃ i v w' cnt', i < 48 ∧ left i = true ∧ f i = some v ∧ (Instr.next (.pointer (some ⟨r, 0, none⟩)) false ty).run Yba.prog w = .ok (.tuple #[.bool true, .string (idB i), v]) w' ∧
      RangeIs w' b r f (fun j => left j && decide (j ≠ i)) cnt' ∧ cnt' < cnt ∧ w.grownBy w' (some r) ∧ w'.heap.size = w.heap.size ∧ (Instr.entry (.pointer (some ⟨r, 0, none⟩))).run Yba.prog w' = .ok (.tuple #[.string (idB i), v]) w' := by
  obtain ⟨D, lf, h, hr, hl, hk⟩ := h
  rcases h.next law9 ty with ⟨h0, h1, h2⟩ | ⟨key, v, kl, y, w', cnt', k1, k2, k3, k4, k5, k6, k7, k8, k9, k10⟩
  · exact Or.inl ⟨fun i hi => by rw [← hl i hi]; exact h1 _, h2⟩
  · obtain ⟨i, hi, rfl⟩ := hr.keys kl (hk _ k2)
    have hkey : key = .string (idB i) := law9.inj k1 (key_id i)
    subst hkey
    simp only [Rv, Option.some.injEq] at k3
    subst k3
    have hs := hr.dom i hi
    rw [hk _ k2] at hs
    obtain ⟨u, hu⟩ := Option.isSome_iff_exists.1 hs.symm
    have hv := (k4 .nil).symm.trans (hr.at_ i u hi hu .nil)
    injection hv with hv
    subst hv
    refine Or.inr ⟨i, v, w', cnt', hi, by rw [← hl i hi]; exact k2, hu, k5, ⟨D, _, k6, hr, fun j hj => ?_, fun kl hk' => hk kl (by simp at hk'; exact hk'.1)⟩, k7, k8, k9, k10⟩
    show (lf (idL j) && !(idL j).sameKey (idL i)) = _
    rw [hl j hj]
    by_cases e : j = i
    · subst e; simp [WideAt.sameKey_self (lit_id j)]
    · rw [sameKey_ne (fun e' => e (idL_inj hj hi e'))]; simp [e]

end

/-! ### at the operations -/
section
variable (w : World) {ops : Array Oper} {rest : List Oper} {o : Oper} {a : Act} {Q : Exit → Act → World → Prop}

theorem wpList_look_is (hg : o.guard = none) (m x : Operand) (t : TypeId) (hop : o.op = Op.lookup t m x false) (e : TypeId) (ht : Yba.prog.underlying t = some (.map 9 e)) {z : Value} (hz : (zeroValue e).run Yba.prog w = .ok z w)
    (b : Nat) (f : Nat → Option Value) (hm : a.eval m = .map (some b)) (h : MapIs w b f) (i : Nat) (hi : i < 48) (hx : a.eval x = .string (idB i))
    (hK : wpList Yba.prog ops Q rest (a.put o.dst ((f i).getD z)) w) : wpList Yba.prog ops Q (o :: rest) a w := by
  refine wpList_plain hg fun K' hK' => ?_
  unfold Oper.wp
  simp [execOp, hop, hm, hx, h.look ht hz hi, Result.andThen]
  exact hK' _ _ hK

theorem wpList_look_ok_is (hg : o.guard = none) (m x : Operand) (t : TypeId) (hop : o.op = Op.lookup t m x true) (e : TypeId) (ht : Yba.prog.underlying t = some (.map 9 e)) {z : Value} (hz : (zeroValue e).run Yba.prog w = .ok z w)
    (b : Nat) (f : Nat → Option Value) (hm : a.eval m = .map (some b)) (h : MapIs w b f) (i : Nat) (hi : i < 48) (hx : a.eval x = .string (idB i))
    (hK : wpList Yba.prog ops Q rest (a.put o.dst (.tuple #[(f i).getD z, .bool (f i).isSome])) w) : wpList Yba.prog ops Q (o :: rest) a w := by
  refine wpList_plain hg fun K' hK' => ?_
  unfold Oper.wp
  simp [execOp, hop, hm, hx, h.look_ok ht hz hi, Result.andThen]
  exact hK' _ _ hK

theorem wpList_update_is (hg : o.guard = none) (m x v : Operand) (t : TypeId) (hop : o.op = Op.mapUpdate t m x v) (e : TypeId) (ht : Yba.prog.underlying t = some (.map 9 e))
    (b : Nat) (f : Nat → Option Value) (hm : a.eval m = .map (some b)) (h : MapIs w b f) (i : Nat) (hi : i < 48) (hx : a.eval x = .string (idB i)) (val : Value) (hv : a.eval v = val)
    (hK : ∀ w', MapIs w' b (updF f i val) → w.grownBy w' (some b) → w'.heap.size = w.heap.size → wpList Yba.prog ops Q rest (a.put o.dst undef) w') : wpList Yba.prog ops Q (o :: rest) a w := by
  refine wpList_plain hg fun K' hK' => ?_
  obtain ⟨w', hrun, h1, h2, h3⟩ := h.update ht hi val
  unfold Oper.wp
  simp [execOp, hop, hm, hx, hv, hrun, Result.andThen]
  exact hK' _ _ (hK w' h1 h2 h3)

theorem wpList_len_is (hg : o.guard = none) (m : Operand) (t : TypeId) (hop : o.op = Op.call { callee := Callee.builtin Builtin.len, args := #[m], argTypes := #[t] }) (e : TypeId) (ht : Yba.prog.underlying t = some (.map 9 e))
    (b : Nat) (f : Nat → Option Value) (hm : a.eval m = .map (some b)) (h : MapIs w b f)
    (hK : wpList Yba.prog ops Q rest (a.put o.dst (.int .i64 (cntF f))) w) : wpList Yba.prog ops Q (o :: rest) a w := by
  refine wpList_plain hg fun K' hK' => ?_
  unfold Oper.wp
  simp [execOp, hop, resolve, invoke, builtin, hm, h.len ht o.type, Result.andThen]
  exact hK' _ _ hK

theorem wpList_range_is (hg : o.guard = none) (m : Operand) (t : TypeId) (hop : o.op = Op.range t m) (e : TypeId) (ht : Yba.prog.underlying t = some (.map 9 e))
    (b : Nat) (f : Nat → Option Value) (hm : a.eval m = .map (some b)) (h : MapIs w b f)
    (hK : ∀ w', RangeIs w' b w.heap.size f (fun i => (f i).isSome) (cntF f) → w.grownBy w' none → w'.heap.size = w.heap.size + 1 → wpList Yba.prog ops Q rest (a.put o.dst (.pointer (some ⟨w.heap.size, 0, none⟩))) w') : wpList Yba.prog ops Q (o :: rest) a w := by
  refine wpList_plain hg fun K' hK' => ?_
  obtain ⟨w', hrun, r1, r2, r3⟩ := h.range ht
  unfold Oper.wp
  simp [execOp, hop, hm, hrun, Result.andThen]
  exact hK' _ _ (hK w' r1 r2 r3)

theorem wpList_next_is (hg : o.guard = none) (it : Operand) (hop : o.op = Op.next it false) (b r : Nat) (f : Nat → Option Value) (left : Nat → Bool) (cnt : Nat) (hit : a.eval it = .pointer (some ⟨r, 0, none⟩)) (h : RangeIs w b r f left cnt)
    (hDone : (∀ i, i < 48 → left i = false) → wpList Yba.prog ops Q rest (a.put o.dst (.tuple #[.bool false])) w)
    (hMore : ∀ (i : Nat) (v : Value) (w' : World) (cnt' : Nat), i < 48 → left i = true → f i = some v → RangeIs w' b r f (fun j => left j && decide (j ≠ i)) cnt' → cnt' < cnt → w.grownBy w' (some r) → w'.heap.size = w.heap.size →
      (Instr.entry (.pointer (some ⟨r, 0, none⟩))).run Yba.prog w' = .ok (.tuple #[.string (idB i), v]) w' → wpList Yba.prog ops Q rest (a.put o.dst (.tuple #[.bool true, .string (idB i), v])) w') :
    wpList Yba.prog ops Q (o :: rest) a w := by
  refine wpList_plain hg fun K' hK' => ?_
  unfold Oper.wp
  rcases h.next o.type with ⟨hl, hrun⟩ | ⟨i, v, w', cnt', k1, k2, k3, k4, k5, k6, k7, k8, k9⟩
  · simp [execOp, hop, hit, hrun, Result.andThen]
    exact hK' _ _ (hDone hl)
  · simp [execOp, hop, hit, k4, Result.andThen]
    exact hK' _ _ (hMore i v w' cnt' k1 k2 k3 k5 k6 k7 k8 k9)

end
end Go.Proofs.Ybulkcnke
