/-
  Small facts on blocks and rows.
-/
import Derived.Test.YbulkcnjcMem
import Derived.Deep.RegionHeld3
import Derived.Deep.RegionWith
import Derived.Deep.AppendLies
import Derived.Deep.DrawnRows
import Derived.Deep.RegionLaw
import Derived.Deep.OwnRows
import Derived.Deep.LoopGhost
import Derived.Deep.DeepCutAuto
import Derived.BigRegion
namespace Go.Proofs.Ybulkcnjc
open Go.RowKit Go.Deep
set_option linter.unusedVariables false

theorem info21 : (Yba.prog.info? 21).map (fun i => (i.zero, i.size, i.bytes)) = some (some (.int .i32 0), 1, 4) := by kernel_rfl

theorem below_undrew {w w3 : World} (h : Below w.drew.heap.size w.drew w3) : Below w.heap.size w w3 := ⟨h.os, h.tape, h.output, h.size, h.block⟩

theorem nodes_snoc (l : List Nat) (v : Nat) : nodes l ++ [.int .i32 (v : Int)] = nodes (l ++ [v]) := by simp [nodes]

theorem made_ints (n : Nat) : madeCells #[Value.int .i32 0] n = ints n (fun _ => 0) := by
  apply Array.ext
  · simp [madeCells, ints]
  · intro i h1 h2
    simp [madeCells, ints, Nat.mod_one]

theorem made_bools (n : Nat) : madeCells #[Value.bool false] n = bools n (fun _ => false) := by
  apply Array.ext
  · simp [madeCells, bools]
  · intro i h1 h2
    simp [madeCells, bools, Nat.mod_one]

theorem Blk.new (w : World) (C : Array Value) (t : TypeId) : Blk (w.alloc (.cells C t)) w.heap.size t C := heap_alloc_new w _

theorem ownsRow_shorter {w : World} {base : Nat} {e : TypeId} {size gb n cap : Nat} {xs : List Value} (h : w.ownsRow base e size (.slice (some ⟨gb, 0, none⟩) n cap) n xs) {k : Nat} (hk : k ≤ n) :
    w.ownsRow base e size (.slice (some ⟨gb, 0, none⟩) k cap) k (xs.take (k * size)) := by
  have hks : k * size ≤ n * size := Nat.mul_le_mul_right _ hk
  refine ⟨by rw [List.length_take, h.1]; omega, Or.inr ?_⟩
  rcases h.2 with ⟨h1, _⟩ | ⟨g', cap', cur, h1, h2, h3, h4, h5, h6, h7⟩
  · cases h1
  · simp only [Value.slice.injEq, Option.some.injEq, Addr.mk.injEq, and_true, true_and] at h1
    obtain ⟨rfl, rfl⟩ := h1
    refine ⟨gb, cap, cur, rfl, h2, h3, by omega, h5, h6, ?_⟩
    rw [← h7, List.take_take]
    congr 1
    omega

theorem grown_refl (w : World) (row : Option Nat) : w.grownBy w row := ⟨rfl, rfl, rfl, Nat.le_refl _, fun _ _ _ => rfl⟩

theorem info4 : (Yba.prog.info? 4).map (fun i => (i.zero, i.size, i.bytes)) = some (some (.bool false), 1, 1) := by kernel_rfl

end Go.Proofs.Ybulkcnjc
