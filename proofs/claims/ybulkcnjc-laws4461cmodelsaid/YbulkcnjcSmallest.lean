/-
  smallestOnCycle, by its contract.
-/
import Derived.Test.YbulkcnjcComp
namespace Go.Proofs.Ybulkcnjc
open Go.RowKit Go.Deep
set_option linter.unusedVariables false

set_option maxHeartbeats 1000000 in
theorem smallest_any (g : Tj.G) (m bS bX : Nat) (t : Int) (w : World) (hg : GMem g m bS bX w) (hS : bS < w.heap.size) (hX : bX < w.heap.size) (gok : g.Ok) (mono : ∀ v, v < g.n → g.st v ≤ g.st (v + 1)) (top : ∀ v, v ≤ g.n → g.st v ≤ m) (hn : g.n ≤ 48) (hm : m ≤ 1024) :
    Calls Yba.prog 5 #[.iface 29 (gv g.n m bS bX), .int .i32 t] w fun e w' => (∃ r, Tj.IsMin g t r ∧ e = .returned (.int .i32 r)) ∧ Below w.heap.size w w' := by
  have hcomp := fun W h1 h2 h3 h4 h5 => components_any g m bS bX (w.heap.size + 1) w.heap.size t W h1 h2 h3 h4 h5 (by omega) (by omega) (by omega) gok mono top hn hm
  have HC : Hid (_) := hcomp
  have HG : Hid (GMem g m bS bX w) := hg
  clear hcomp hg gok mono top
  go_enter Yba.func5, Yba.ntmps5
  go_wp2_with fail
  refine (HC.out _ ?_ ?_ ?_ ?_ ?_).mono ?_
  · exact HG.out.other ((Below.heap_alloc _ _ _ (by simp; omega)).trans (Below.heap_alloc _ _ _ hS)) ((Below.heap_alloc _ _ _ (by simp; omega)).trans (Below.heap_alloc _ _ _ hX))
  · simp; omega
  · simp; omega
  · have h := Blk.new (w.alloc (.cells #[.int .i32 t] 21)) #[.int .i32 (-1)] 21
    rw [World.size_alloc] at h
    exact h
  · exact (Blk.new w #[.int .i32 t] 21).alloc _
  rintro e w2 ⟨rfl, ⟨r, hmin, hB⟩, hgr⟩
  have hc : w2.cell? ⟨w.heap.size + 1, 0, none⟩ = some (.int .i32 r) := hB.one
  have HGR : Hid (((w.alloc (.cells #[.int .i32 t] 21)).alloc (.cells #[.int .i32 (-1)] 21)).grownBy w2 (some (w.heap.size + 1))) := hgr
  have HMI : Hid (Tj.IsMin g t r) := hmin
  clear hgr hB hmin
  go_wp2
  go_ret
  refine ⟨⟨r, HMI.out, by go_num⟩, ?_⟩
  have hb : Below w.heap.size w ((w.alloc (.cells #[.int .i32 t] 21)).alloc (.cells #[.int .i32 (-1)] 21)) := ((Below.refl _ _).alloc (Nat.le_refl _) _).alloc (by simp) _
  have hg2 := HGR.out
  exact hb.trans ⟨hg2.os, hg2.tape, hg2.output, hg2.size, fun k hk => hg2.block k (by simp; omega) (fun e => by simp only [Option.some.injEq] at e; omega)⟩

end Go.Proofs.Ybulkcnjc
