/-
  The small functions on the road: the ids, the size test, Step.
-/
import Derived.Test.YbulkcnkeBMap
import Derived.Laws.BytesArg
import Derived.BigQuiet
import Derived.Deep.QuietTactic
import Derived.Deep.RegionHeld3
import Derived.Deep.RegionWith
import Derived.Deep.AppendLies
import Derived.Deep.DrawnRows
import Derived.Deep.RegionLaw
import Derived.Deep.DeepCutAuto
import Derived.BigRegion
namespace Go.Proofs.Ybulkcnke
open Go.RowKit Go.Maps
set_option linter.unusedVariables false


set_option maxRecDepth 100000 in
set_option maxHeartbeats 1600000 in
theorem bid_any (i : Nat) (hi : i < 48) (w : World) :
    Calls Yba.prog 15 #[.int .i64 (i : Int)] w fun e w' => e = .returned (.string (idB i)) ∧ Below w.heap.size w w' := by
  have hconv : ∀ x y, (convert 31 9 (.slice (some ⟨w.heap.size, 0, none⟩) 3 3)).run Yba.prog (w.alloc (.cells #[.int .u8 115, .int .u8 x, .int .u8 y] 5)) = .ok (.string (strOfNums [115, x, y])) (w.alloc (.cells #[.int .u8 115, .int .u8 x, .int .u8 y] 5)) := by
    intro x y
    refine run_convert_bytes_arg _ 31 5 Yba.underlying31 Yba.underlying5 w.heap.size 0 3 3 [115, x, y] rfl (fun j hj => ?_) 9 Yba.underlying9
    rw [World.cell?_alloc_at _ _ _ _ rfl]
    match j, hj with
    | 0, _ => rfl
    | 1, _ => rfl
    | 2, _ => rfl
  have e1 : (0 : Int) ≤ (i : Int) / 26 ∧ (i : Int) / 26 < 26 := by omega
  have e2 : (0 : Int) ≤ (i : Int) % 26 ∧ (i : Int) % 26 < 26 := by omega
  go_enter Yba.func15, Yba.ntmps15
  go_wp2
  go_ret
  refine ⟨congrArg Ending.returned (congrArg Value.string ?_), (Below.refl _ _).alloc (Nat.le_refl _) _⟩
  have h1 : ((97 : Int) + (i : Int) / 26).toNat = 97 + i / 26 := by omega
  have h2 : ((97 : Int) + (i : Int) % 26).toNat = 97 + i % 26 := by omega
  simp [strOfNums, idB, h1, h2]

/-! ### look-ups with what comes out named -/
section
variable (w : World) {ops : Array Oper} {rest : List Oper} {o : Oper} {a : Act} {Q : Exit → Act → World → Prop}
theorem wpList_look_at (hg : o.guard = none) (m x : Operand) (t : TypeId) (hop : o.op = Op.lookup t m x false) (e : TypeId) (ht : Yba.prog.underlying t = some (.map 9 e)) {z : Value} (hz : (zeroValue e).run Yba.prog w = .ok z w)
    (b : Nat) (f : Nat → Option Value) (hm : a.eval m = .map (some b)) (h : MapIs w b f) (i : Nat) (hi : i < 48) (hx : a.eval x = .string (idB i)) (v : Value) (hv : (f i).getD z = v)
    (hK : wpList Yba.prog ops Q rest (a.put o.dst v) w) : wpList Yba.prog ops Q (o :: rest) a w :=
  wpList_look_is w hg m x t hop e ht hz b f hm h i hi hx (by rw [hv]; exact hK)
theorem wpList_look_ok_at (hg : o.guard = none) (m x : Operand) (t : TypeId) (hop : o.op = Op.lookup t m x true) (e : TypeId) (ht : Yba.prog.underlying t = some (.map 9 e)) {z : Value} (hz : (zeroValue e).run Yba.prog w = .ok z w)
    (b : Nat) (f : Nat → Option Value) (hm : a.eval m = .map (some b)) (h : MapIs w b f) (i : Nat) (hi : i < 48) (hx : a.eval x = .string (idB i)) (v : Value) (hv : (f i).getD z = v) (c : Bool) (hc : (f i).isSome = c)
    (hK : wpList Yba.prog ops Q rest (a.put o.dst (.tuple #[v, .bool c])) w) : wpList Yba.prog ops Q (o :: rest) a w :=
  wpList_look_ok_is w hg m x t hop e ht hz b f hm h i hi hx (by rw [hv, hc]; exact hK)
end

theorem zero3 (w : World) : (zeroValue 3).run Yba.prog w = .ok (.int .i64 0) w := by kernel_rfl
theorem zero4 (w : World) : (zeroValue 4).run Yba.prog w = .ok (.bool false) w := by kernel_rfl
theorem zero61 (w : World) : (zeroValue 61).run Yba.prog w = .ok (.map none) w := by kernel_rfl

/-! ### what came in -/
/-- the plain data of the steps, as they lie in the argument -/
structure In where
  sb : Nat
  so : Nat
  ra : Nat → Option Addr
  la : Nat → Nat
  ca : Nat → Nat
  ab : Nat → Nat
  ao : Nat → Nat
  xa : Nat → Nat → Nat
  jo : Nat → Nat
  rt : Nat → Option Addr
  lt : Nat → Nat
  ct : Nat → Nat
  tb : Nat → Nat
  tof : Nat → Nat
  xt : Nat → Nat → Nat

structure InArg (I : In) (sa : Option Addr) (len : Nat) (w : World) (i : Nat) : Prop where
  base : sa = some ⟨I.sb, I.so, none⟩
  lt : I.sb < w.heap.size
  c0 : w.cell? ⟨I.sb, I.so + i * 3, none⟩ = some (.slice (I.ra i) (I.la i) (I.ca i))
  c1 : w.cell? ⟨I.sb, I.so + i * 3 + 1, none⟩ = some (.int .u8 (I.jo i : Int))
  c2 : w.cell? ⟨I.sb, I.so + i * 3 + 2, none⟩ = some (.slice (I.rt i) (I.lt i) (I.ct i))
  jo : I.jo i < 256
  a : ∀ j, j < I.la i → I.ra i = some ⟨I.ab i, I.ao i, none⟩ ∧ I.ab i < w.heap.size ∧ I.xa i j < 256 ∧ w.cell? ⟨I.ab i, I.ao i + j, none⟩ = some (.int .u8 (I.xa i j : Int))
  t : ∀ j, j < I.lt i → I.rt i = some ⟨I.tb i, I.tof i, none⟩ ∧ I.tb i < w.heap.size ∧ I.xt i j < 256 ∧ w.cell? ⟨I.tb i, I.tof i + j, none⟩ = some (.int .u8 (I.xt i j : Int))

theorem InArg.below {I : In} {sa : Option Addr} {len : Nat} {w w' : World} {i : Nat} (h : InArg I sa len w i) (hb : Below w.heap.size w w') : InArg I sa len w' i := by
  have hs := hb.size
  exact ⟨h.base, Nat.lt_of_lt_of_le h.lt hs, (hb.cell h.lt).trans h.c0, (hb.cell h.lt).trans h.c1, (hb.cell h.lt).trans h.c2, h.jo,
    fun j hj => let ⟨h1, h2, h3, h4⟩ := h.a j hj; ⟨h1, Nat.lt_of_lt_of_le h2 hs, h3, (hb.cell h2).trans h4⟩, fun j hj => let ⟨h1, h2, h3, h4⟩ := h.t j hj; ⟨h1, Nat.lt_of_lt_of_le h2 hs, h3, (hb.cell h2).trans h4⟩⟩

def BigRes (I : In) (len : Nat) (w : World) (e : Ending) (w' : World) : Prop := ∃ r, e = .returned (.bool r) ∧ Below w.heap.size w w' ∧ (r = false → len ≤ 1024 ∧ ∀ i, i < len → I.la i ≤ 1024 ∧ I.lt i ≤ 1024)

set_option maxRecDepth 100000 in
set_option maxHeartbeats 1600000 in
theorem bbig_any (I : In) (sa : Option Addr) (len cap : Nat) (w : World) (hlen : len ≤ 9223372036854775807) (hin : ∀ i, i < len → InArg I sa len w i) :
    Calls Yba.prog 7 #[.slice sa len cap] w fun e w' => BigRes I len w e w' := by
  have HIn : Hid (∀ i, i < len → InArg I sa len w i) := hin
  clear hin
  go_enter Yba.func7, Yba.ntmps7
  by_cases hbig : (len : Int) > 1024
  · go_wp2
    go_ret
    exact ⟨true, rfl, Below.refl _ _, fun h => by cases h⟩
  · go_wp2
    go_loopg [10] len (fun gk i wr => ∃ k : Nat, k ≤ len ∧ gk + k = len ∧ i = .int .i64 (k : Int) ∧ Below w.heap.size w wr ∧ ∀ i, i < k → I.la i ≤ 1024 ∧ I.lt i ≤ 1024)
    case atStart => exact ⟨0, Nat.zero_le _, rfl, rfl, Below.refl _ _, fun i hi => absurd hi (Nat.not_lt_zero _)⟩
    case round =>
      obtain ⟨k, hk, hgk, rfl, hB, hall⟩ := hrel
      by_cases hkl : k < len
      · have hki : (k : Int) < (len : Int) := by omega
        obtain ⟨rfl, h1, d0, d1, d2, _, _, _⟩ := (HIn.out k hkl).below hB
        have HB : Hid (Below w.heap.size w wr) := hB
        have hsz := hB.size
        have HA : Hid (∀ i, i < k → I.la i ≤ 1024 ∧ I.lt i ≤ 1024) := hall
        clear hB hall
        by_cases ha : (I.la k : Int) > 1024
        · go_wp2
          go_ret
          exact ⟨true, rfl, HB.out.alloc hsz _, fun h => by cases h⟩
        · by_cases ht : (I.lt k : Int) > 1024
          · go_wp2
            go_ret
            exact ⟨true, rfl, HB.out.alloc hsz _, fun h => by cases h⟩
          · go_wp2
            go_roundg (gk - 1)
            case measure => omega
            case rel => exact ⟨k + 1, by omega, by omega, by go_num, HB.out.alloc hsz _, fun i hi => by
              by_cases e : i = k
              · subst e; omega
              · exact HA.out i (by omega)⟩
      · have hki : ¬ (k : Int) < (len : Int) := by omega
        obtain rfl : k = len := by omega
        go_wp2
        go_ret
        exact ⟨false, rfl, hB, fun _ => ⟨by omega, hall⟩⟩

end Go.Proofs.Ybulkcnke
