/-
  The argument of the two laws: steps with two slices of bytes each.
-/
import Derived.Test.YbulkcnkeBSmall
import Derived.ProofKit
import Derived.OpenShut
import Derived.Deep.Slices
import Derived.Deep.Strs
import Derived.Carry
namespace Go.Proofs.Ybulkcnke
open Go.ChangeShapes Go.WideShapes Go.ChangeAt Go.RowKit Go.Deep
set_option linter.unusedVariables false

theorem u8_wf (n : Int) (h : (Lit.int .u8 n).wf = true) : 0 ≤ n ∧ n < 256 := by
  simp [Lit.wf, IntKind.min, IntKind.max, IntKind.signed, IntKind.bits] at h
  omega

theorem ncells57 : Yba.prog.cellsOf 57 = 3 := by kernel_rfl
theorem ncells31 : Yba.prog.cellsOf 31 = 1 := by kernel_rfl
theorem ncells5 : Yba.prog.cellsOf 5 = 1 := by kernel_rfl

theorem spot_none {W : World} {a : Addr} {v : Value} (h : W.cell? a = some v) : a.spot = none := by
  cases hs : a.spot with
  | none => rfl
  | some r =>
    exfalso
    simp only [World.cell?] at h
    split at h
    · simp [hs] at h
    · cases h

theorem add_plain (b o i : Nat) : (⟨b, o, none⟩ : Addr).add i = ⟨b, o + i, none⟩ := by unfold Addr.add; split <;> simp_all

/-- a slice of bytes -/
theorem bytes_cells {H : Type} {enc : TypeId × Value → H} {W : World} {fuel : Nat} {cs : List Value} {x : DataW H × List MemPlace} (h : DataW.trod enc Yba.prog W 0 (fun _ => true) true fuel 31 cs = some x) :
    ∃ (ra : Option Addr) (la ca ab ao : Nat) (xa : Nat → Nat), cs = [.slice ra la ca] ∧ ∀ j, j < la → ra = some ⟨ab, ao, none⟩ ∧ ab < W.heap.size ∧ xa j < 256 ∧ W.cell? ⟨ab, ao + j, none⟩ = some (.int .u8 (xa j : Int)) := by
  rcases open_slice1 Yba.underlying31 ncells5 h with ⟨h0, _⟩ | ⟨a, len, cap, m, n, V, D, Pl, h0, _, hl, _, hmm, _, hx⟩
  · exact ⟨none, 0, 0, 0, 0, fun _ => 0, h0, fun j hj => absurd hj (Nat.not_lt_zero _)⟩
  · have hlm : len ≤ m := by rw [hmm]; simp; exact hl
    have one : ∀ i, i < len → ∃ z : Nat, z < 256 ∧ W.cell? (a.add i) = some (.int .u8 (z : Int)) := by
      intro i hi
      obtain ⟨hc, ht⟩ := hx i (by omega)
      obtain ⟨z, e0, _, w0⟩ := DataW.trod_int Yba.underlying5 ht
      simp at e0
      rw [e0] at hc
      have w0' := u8_wf _ w0
      exact ⟨z.toNat, by omega, by rw [hc]; congr 2; omega⟩
    obtain ⟨z, hz⟩ := choose_lt one
    by_cases hpos : 0 < len
    · have h00 := (hz 0 hpos).2
      have hsp : a.spot = none := by
        have := spot_none h00
        simpa [Addr.add] using this
      obtain ⟨ab, ao, spot⟩ := a
      simp only at hsp
      subst hsp
      refine ⟨some ⟨ab, ao, none⟩, len, cap, ab, ao, z, h0, fun j hj => ⟨rfl, ?_, (hz j hj).1, ?_⟩⟩
      · have := World.block_lt_of_cell? W _ h00
        rw [add_plain] at this
        exact this
      · have := (hz j hj).2
        rw [add_plain] at this
        exact this
    · obtain rfl : len = 0 := by omega
      exact ⟨some a, 0, cap, 0, 0, fun _ => 0, h0, fun j hj => absurd hj (Nat.not_lt_zero _)⟩

structure Stp where
  ra : Option Addr
  la : Nat
  ca : Nat
  ab : Nat
  ao : Nat
  xa : Nat → Nat
  jo : Nat
  rt : Option Addr
  lt : Nat
  ct : Nat
  tb : Nat
  tof : Nat
  xt : Nat → Nat

theorem steps_cells {H : Type} {enc : TypeId × Value → H} {W : World} {sa : Option Addr} {len cap : Nat} {d : DataW H} {ps : List MemPlace} (h : DataW.Trod enc Yba.prog W 0 (fun _ => true) true 22 (.slice sa len cap) d ps) :
    len ≤ 9223372036854775807 ∧ ∃ I : In, ∀ i, i < len → InArg I sa len W i := by
  obtain ⟨fuel, hf⟩ := h
  rcases open_slice Yba.underlying22 hf with ⟨h0, _⟩ | ⟨a, len', cap', m, n, D, Pl, h0, _, hl, hcm, hmm, _, hx⟩
  · have e : Value.slice sa len cap = Value.slice none 0 0 := by simpa [Value.cells] using h0
    simp only [Value.slice.injEq] at e
    obtain ⟨rfl, rfl, rfl⟩ := e
    exact ⟨by omega, ⟨0, 0, fun _ => none, fun _ => 0, fun _ => 0, fun _ => 0, fun _ => 0, fun _ _ => 0, fun _ => 0, fun _ => none, fun _ => 0, fun _ => 0, fun _ => 0, fun _ => 0, fun _ _ => 0⟩, fun i hi => absurd hi (Nat.not_lt_zero _)⟩
  · have e : Value.slice sa len cap = Value.slice (some a) len' cap' := by simpa [Value.cells] using h0
    simp only [Value.slice.injEq] at e
    obtain ⟨rfl, rfl, rfl⟩ := e
    have hlm : len ≤ m := by rw [hmm]; simp; exact hl
    refine ⟨by unfold maxLen at hcm; omega, ?_⟩
    have one : ∀ i, i < len → ∃ s : Stp, W.cell? ((a.add (i * 3)).add 0) = some (.slice s.ra s.la s.ca) ∧ W.cell? ((a.add (i * 3)).add 1) = some (.int .u8 (s.jo : Int)) ∧ W.cell? ((a.add (i * 3)).add 2) = some (.slice s.rt s.lt s.ct) ∧ s.jo < 256 ∧
        (∀ j, j < s.la → s.ra = some ⟨s.ab, s.ao, none⟩ ∧ s.ab < W.heap.size ∧ s.xa j < 256 ∧ W.cell? ⟨s.ab, s.ao + j, none⟩ = some (.int .u8 (s.xa j : Int))) ∧
        (∀ j, j < s.lt → s.rt = some ⟨s.tb, s.tof, none⟩ ∧ s.tb < W.heap.size ∧ s.xt j < 256 ∧ W.cell? ⟨s.tb, s.tof + j, none⟩ = some (.int .u8 (s.xt j : Int))) := by
      intro i hi
      obtain ⟨cs, hcs, htr⟩ := hx i (by omega)
      rw [ncells57] at hcs
      obtain ⟨_, hlen, hget⟩ := World.cells?_some hcs
      match cs, hlen with
      | [c0, c1, c2], _ =>
        obtain ⟨y0, y1, y2, n', _, _, h3, h4, h5⟩ := trod_struct3 Yba.underlying57 htr
        simp only [ncells5, ncells31] at h3 h4 h5
        obtain ⟨ra, la, ca, ab, ao, xa, e0, k0⟩ := bytes_cells h3
        obtain ⟨z, e1, _, w1⟩ := DataW.trod_int Yba.underlying5 h4
        obtain ⟨rt, lt, ct, tb, tof, xt, e2, k2⟩ := bytes_cells h5
        simp at e0 e1 e2
        subst e0 e1 e2
        have g0 := hget 0 (by omega)
        have g1 := hget 1 (by omega)
        have g2 := hget 2 (by omega)
        have w1' := u8_wf _ w1
        refine ⟨⟨ra, la, ca, ab, ao, xa, z.toNat, rt, lt, ct, tb, tof, xt⟩, ?_, ?_, ?_, ?_, k0, k2⟩
        · rw [g0]; rfl
        · rw [g1]; show some _ = some _; congr 2; show z = (z.toNat : Int); omega
        · rw [g2]; rfl
        · show z.toNat < 256; omega
    obtain ⟨s, hs⟩ := @choose_lt Stp ⟨⟨none, 0, 0, 0, 0, fun _ => 0, 0, none, 0, 0, 0, 0, fun _ => 0⟩⟩ len _ one
    by_cases hpos : 0 < len
    · have h00 := (hs 0 hpos).1
      have hsp : a.spot = none := by
        have := spot_none h00
        simpa [Addr.add] using this
      obtain ⟨sb, so, spot⟩ := a
      simp only at hsp
      subst hsp
      have hlt : sb < W.heap.size := by
        have := World.block_lt_of_cell? W _ h00
        simpa [Addr.add] using this
      refine ⟨⟨sb, so, fun i => (s i).ra, fun i => (s i).la, fun i => (s i).ca, fun i => (s i).ab, fun i => (s i).ao, fun i => (s i).xa, fun i => (s i).jo, fun i => (s i).rt, fun i => (s i).lt, fun i => (s i).ct, fun i => (s i).tb, fun i => (s i).tof, fun i => (s i).xt⟩, fun i hi => ?_⟩
      obtain ⟨q0, q1, q2, q3, q4, q5⟩ := hs i hi
      simp only [add_plain] at q0 q1 q2
      exact ⟨rfl, hlt, q0, q1, q2, q3, q4, q5⟩
    · obtain rfl : len = 0 := by omega
      exact ⟨⟨0, 0, fun _ => none, fun _ => 0, fun _ => 0, fun _ => 0, fun _ => 0, fun _ _ => 0, fun _ => 0, fun _ => none, fun _ => 0, fun _ => 0, fun _ => 0, fun _ => 0, fun _ _ => 0⟩, fun i hi => absurd hi (Nat.not_lt_zero _)⟩

end Go.Proofs.Ybulkcnke
