/-
  edgeLists' three methods, by their contracts.
-/
import Derived.Test.YbulkcnjcRows
import Derived.Test.YbulkcnjcTarjanMore
import Derived.WalkKit
import Derived.WalkSpells
import Derived.WalkLawsBesides
namespace Go.Proofs.Ybulkcnjc
open Go.RowKit
set_option linter.unusedVariables false

/-- the edge lists as they lie in memory -/
structure GMem (g : Tj.G) (m bS bX : Nat) (w : World) : Prop where
  st : ∀ i, i ≤ g.n → w.cell? ⟨bS, i, none⟩ = some (.int .i64 (g.st i : Int))
  sc : ∀ c, c < m → w.cell? ⟨bX, c, none⟩ = some (.int .i32 (g.sc c : Int))

/-- the value of edgeLists -/
def gv (n m bS bX : Nat) : Value := .agg #[.slice (some ⟨bS, 0, none⟩) (n + 1) (n + 1), .slice (some ⟨bX, 0, none⟩) m m]

set_option maxHeartbeats 400000 in
theorem nodeCount_any (n m bS bX : Nat) (w : World) (hn : n ≤ 48) :
    Calls Yba.prog 84 #[gv n m bS bX] w fun e w' => e = .returned (.int .i32 (n : Int)) ∧ Below w.heap.size w w' := by
  unfold gv
  go_enter Yba.func84, Yba.ntmps84
  go_wp2
  go_ret
  exact ⟨by go_num, (Below.refl _ _).alloc (Nat.le_refl _) _⟩

set_option maxHeartbeats 400000 in
theorem firstArc_any (g : Tj.G) (m bS bX v : Nat) (w : World) (hn : g.n ≤ 48) (hv : v < g.n) (hg : GMem g m bS bX w) (hb : bS < w.heap.size) :
    Calls Yba.prog 83 #[gv g.n m bS bX, .int .i32 (v : Int)] w fun e w' => e = .returned (.int .i64 (g.st v : Int)) ∧ Below w.heap.size w w' := by
  have hc := hg.st v (by omega)
  unfold gv
  go_enter Yba.func83, Yba.ntmps83
  go_wp2
  go_ret
  exact ⟨rfl, (Below.refl _ _).alloc (Nat.le_refl _) _⟩

set_option maxHeartbeats 400000 in
theorem arc_no (g : Tj.G) (m bS bX v : Nat) (w : World) (hn : g.n ≤ 48) (hv : v < g.n) (hg : GMem g m bS bX w) (hb : bS < w.heap.size) :
    Calls Yba.prog 82 #[gv g.n m bS bX, .int .i32 (v : Int), .int .i64 (g.st (v + 1) : Int)] w fun e w' => e = .returned (.tuple #[.int .i32 0, .int .i64 (g.st (v + 1) : Int), .bool false]) ∧ Below w.heap.size w w' := by
  have hc := hg.st (v + 1) (by omega)
  unfold gv
  go_enter Yba.func82, Yba.ntmps82
  go_wp2
  go_ret3
  exact ⟨rfl, (Below.refl _ _).alloc (Nat.le_refl _) _⟩

set_option maxHeartbeats 400000 in
theorem arc_yes (g : Tj.G) (m bS bX v c : Nat) (w : World) (hn : g.n ≤ 48) (hv : v < g.n) (hg : GMem g m bS bX w) (hb : bS < w.heap.size) (hbX : bX < w.heap.size) (hm : m ≤ 1024) (hcm : c < m) (hlt : c < g.st (v + 1)) :
    Calls Yba.prog 82 #[gv g.n m bS bX, .int .i32 (v : Int), .int .i64 (c : Int)] w fun e w' => e = .returned (.tuple #[.int .i32 (g.sc c : Int), .int .i64 ((c : Int) + 1), .bool true]) ∧ Below w.heap.size w w' := by
  have hc := hg.st (v + 1) (by omega)
  have hx := hg.sc c hcm
  have hne : ((c : Int) == (g.st (v + 1) : Int)) = false := by simp; omega
  unfold gv
  go_enter Yba.func82, Yba.ntmps82
  go_wp2
  go_ret3
  exact ⟨rfl, (Below.refl _ _).alloc (Nat.le_refl _) _⟩
end Go.Proofs.Ybulkcnjc
