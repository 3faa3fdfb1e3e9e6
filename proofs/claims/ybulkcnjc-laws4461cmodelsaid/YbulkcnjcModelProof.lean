/-
  LawS4461CModel: the statement.
-/
import Derived.Test.YbulkcnjcCLaw
import Derived.ProofKit
import Derived.OpenShut
import Derived.Deep.Slices
import Derived.Carry
namespace Go.Proofs.Ybulkcnjc.lawS4461CModel
open Go.ChangeShapes Go.WideShapes Go.ChangeAt Go.RowKit Go.Deep

theorem u16_bounds (n : Int) (h : (Lit.int .u16 n).wf = true) : 0 ≤ n ∧ n < 65536 := by
  simp [Lit.wf, IntKind.min, IntKind.max, IntKind.signed, IntKind.bits] at h
  omega

theorem own : ownKnob Yba.prog.godebug = none := by kernel_rfl
theorem laidOut : laidOutB Yba.prog = true := by kernel_rfl
theorem cells50 : Yba.prog.cellsOf 50 = 2 := by kernel_rfl
theorem cells48 : Yba.prog.cellsOf 48 = 1 := by kernel_rfl

theorem add_add (b o i : Nat) : ∀ j, ((⟨b, o, none⟩ : Addr).add i).add j = ⟨b, o + i + j, none⟩ := by
  intro j
  unfold Addr.add
  split <;> split <;> simp_all

theorem edges_cells {H : Type} {enc : TypeId × Value → H} {W : World} {ea : Option Addr} {len cap : Nat} {d : DataW H} {ps : List MemPlace}
    (h : DataW.Trod enc Yba.prog W 0 (fun _ => true) true 32 (.slice ea len cap) d ps) :
    ∃ (eb eo : Nat) (x y : Nat → Nat), (∀ i, i < len → x i < 65536) ∧ (∀ i, i < len → y i < 65536) ∧
      (∀ i, i < len → ea = some ⟨eb, eo, none⟩ ∧ W.cell? ⟨eb, eo + i * 2, none⟩ = some (.int .u16 (x i : Int)) ∧ W.cell? ⟨eb, eo + i * 2 + 1, none⟩ = some (.int .u16 (y i : Int))) ∧ (0 < len → eb < W.heap.size) := by
  obtain ⟨fuel, hf⟩ := h
  rcases open_slice Yba.underlying32 hf with ⟨h0, _⟩ | ⟨a, len', cap', m, n, D, Pl, h0, _, hl, _, hmm, _, hx⟩
  · have e : Value.slice ea len cap = Value.slice none 0 0 := by simpa [Value.cells] using h0
    simp only [Value.slice.injEq] at e
    obtain ⟨rfl, rfl, rfl⟩ := e
    exact ⟨0, 0, fun _ => 0, fun _ => 0, fun i hi => absurd hi (Nat.not_lt_zero _), fun i hi => absurd hi (Nat.not_lt_zero _), fun i hi => absurd hi (Nat.not_lt_zero _), fun hi => absurd hi (Nat.lt_irrefl _)⟩
  · have e : Value.slice ea len cap = Value.slice (some a) len' cap' := by simpa [Value.cells] using h0
    simp only [Value.slice.injEq] at e
    obtain ⟨rfl, rfl, rfl⟩ := e
    have hlm : len ≤ m := by rw [hmm]; simp; exact hl
    have one : ∀ i, i < len → ∃ z : Nat × Nat, z.1 < 65536 ∧ z.2 < 65536 ∧ W.cell? ((a.add (i * 2)).add 0) = some (.int .u16 (z.1 : Int)) ∧ W.cell? ((a.add (i * 2)).add 1) = some (.int .u16 (z.2 : Int)) := by
      intro i hi
      obtain ⟨cs, hcs, htr⟩ := hx i (by omega)
      rw [cells50] at hcs
      obtain ⟨_, hlen, hget⟩ := World.cells?_some hcs
      match cs, hlen with
      | [c0, c1], _ =>
        obtain ⟨y0, y1, n', _, _, h3, h4⟩ := trod_struct2 Yba.underlying50 htr
        simp only [cells48] at h3 h4
        obtain ⟨z0, e0, _, w0⟩ := DataW.trod_int Yba.underlying48 h3
        obtain ⟨z1, e1, _, w1⟩ := DataW.trod_int Yba.underlying48 h4
        simp at e0 e1
        subst e0 e1
        have g0 := hget 0 (by omega)
        have g1 := hget 1 (by omega)
        have w0' := u16_bounds _ w0
        have w1' := u16_bounds _ w1
        refine ⟨(z0.toNat, z1.toNat), ?_, ?_, ?_, ?_⟩
        · show z0.toNat < 65536; omega
        · show z1.toNat < 65536; omega
        · rw [g0]; show some _ = some _; congr 2; show z0 = (z0.toNat : Int); omega
        · rw [g1]; show some _ = some _; congr 2; show z1 = (z1.toNat : Int); omega
    obtain ⟨z, hz⟩ := choose_lt one
    by_cases hpos : 0 < len
    · have h00 := (hz 0 hpos).2.2.1
      have hsp : a.spot = none := by
        cases hs : a.spot with
        | none => rfl
        | some r =>
          exfalso
          have : (a.add (0 * 2)).add 0 = a := by simp [Addr.add]
          rw [this] at h00
          simp only [World.cell?] at h00
          split at h00
          · simp [hs] at h00
          · cases h00
      obtain ⟨eb, eo, spot⟩ := a
      simp only at hsp
      subst hsp
      refine ⟨eb, eo, fun i => (z i).1, fun i => (z i).2, fun i hi => (hz i hi).1, fun i hi => (hz i hi).2.1, fun i hi => ⟨rfl, ?_, ?_⟩, fun _ => ?_⟩
      · have := (hz i hi).2.2.1
        rw [add_add] at this
        exact this
      · have := (hz i hi).2.2.2
        rw [add_add] at this
        exact this
      · rw [add_add] at h00
        simp only [World.cell?] at h00
        split at h00
        · rename_i hb; exact lt_of_block hb
        · cases h00
    · obtain rfl : len = 0 := by omega
      exact ⟨0, 0, fun _ => 0, fun _ => 0, fun i hi => absurd hi (Nat.not_lt_zero _), fun i hi => absurd hi (Nat.not_lt_zero _), fun i hi => absurd hi (Nat.not_lt_zero _), fun hi => absurd hi (Nat.lt_irrefl _)⟩

theorem cells3 : Yba.prog.cellsOf 3 = 1 := by kernel_rfl
theorem nodes_cells {H : Type} {enc : TypeId × Value → H} {W : World} {pa : Option Addr} {len cap : Nat} {d : DataW H} {ps : List MemPlace}
    (h : DataW.Trod enc Yba.prog W 0 (fun _ => true) true 26 (.slice pa len cap) d ps) :
    ∃ zs : List Int, len = zs.length ∧ (∀ z ∈ zs, (Lit.int .i64 z).wf = true) ∧ NodIn W.heap.size W pa zs := by
  obtain ⟨fuel, hf⟩ := h
  rcases open_slice Yba.underlying26 hf with ⟨h0, _⟩ | ⟨a, len', cap', m, n, D, Pl, h0, _, hl, _, hmm, _, hx⟩
  · have e : Value.slice pa len cap = Value.slice none 0 0 := by simpa [Value.cells] using h0
    simp only [Value.slice.injEq] at e
    obtain ⟨rfl, rfl, rfl⟩ := e
    exact ⟨[], rfl, fun z hz => (List.not_mem_nil hz).elim, Or.inl rfl⟩
  · have e : Value.slice pa len cap = Value.slice (some a) len' cap' := by simpa [Value.cells] using h0
    simp only [Value.slice.injEq] at e
    obtain ⟨rfl, rfl, rfl⟩ := e
    have hlm : len ≤ m := by rw [hmm]; simp; exact hl
    have one : ∀ i, i < len → ∃ z : Int, (Lit.int .i64 z).wf = true ∧ W.cell? ((a.add (i * 1)).add 0) = some (.int .i64 z) := by
      intro i hi
      obtain ⟨cs, hcs, htr⟩ := hx i (by omega)
      rw [cells3] at hcs
      obtain ⟨_, hlen, hget⟩ := World.cells?_some hcs
      match cs, hlen with
      | [c0], _ =>
        obtain ⟨z0, e0, _, w0⟩ := DataW.trod_int Yba.underlying3 htr
        simp at e0
        subst e0
        exact ⟨z0, w0, hget 0 (by omega)⟩
    obtain ⟨z, hz⟩ := choose_lt one
    refine ⟨(List.range len).map z, by simp, fun u hu => ?_, ?_⟩
    · obtain ⟨i, hi, rfl⟩ := List.mem_map.1 hu
      exact (hz i (List.mem_range.1 hi)).1
    by_cases hpos : 0 < len
    · have h00 := (hz 0 hpos).2
      have hsp : a.spot = none := by
        cases hs : a.spot with
        | none => rfl
        | some r =>
          exfalso
          have : (a.add (0 * 1)).add 0 = a := by simp [Addr.add]
          rw [this] at h00
          simp only [World.cell?] at h00
          split at h00
          · simp [hs] at h00
          · cases h00
      obtain ⟨eb, eo, spot⟩ := a
      simp only at hsp
      subst hsp
      refine Or.inr ⟨eb, eo, rfl, ?_, fun j hj => ?_⟩
      · rw [add_add] at h00
        exact cell_size h00
      · have hj' : j < len := by simpa using hj
        have := (hz j hj').2
        rw [add_add, Nat.mul_one, Nat.add_zero] at this
        rw [this]
        simp [List.getD, hj']
    · obtain rfl : len = 0 := by omega
      exact Or.inl rfl

set_option maxRecDepth 100000 in
theorem lifted (os : Os) (started : os.Started) (H : Type) (enc : TypeId × Value → H) :
    ReturnsInHanded {} Yba.checked os 4 .any (Rows.lawS4461CModelSpec.pre6 enc Yba.prog Yba.f4 Rows.lawS4461CModelRow.domain false) (Rows.lawS4461CModelSpec.post enc Yba.prog Yba.f4 false true false false) := by
  refine returnsInHanded_of_change (C := Yba.checked) own started (by kernel_rfl) Yba.func4
    (ChangeSpec.witness6 (enc := enc) (C := Yba.checked) false ⟨#[], #[.slice none 0 0, .slice none 0 0], []⟩ 8 (by kernel_rfl) (by kernel_rfl) (by kernel_rfl) (by kernel_rfl)) ?_
  intro W base args ds gs before hval0 hW _ _
  have hval : ∀ (j : Nat) t v, Yba.f4.params[j]? = some t → args[j]? = some v → Value.okWide Yba.prog W .any base t v := hval0
  have hW' := hW
  obtain ⟨p, q, hA0, hV, rfl, hfz, hnd⟩ := hW
  have hA : DataW.TrodAll enc Yba.prog W 0 (fun _ => true) true Yba.f4.params.toList args.toList ds p := hA0
  rw [Yba.params4] at hA hval
  obtain ⟨v0, v1, d0, d1, p0, p1, rfl, rfl, rfl, h0, h1⟩ := trodAll_two hA
  obtain ⟨rfl, rfl⟩ := trodVars_none hV
  obtain ⟨pn, nl, cn, rfl⟩ := okWide_slice Yba.underlying26 (hval 0 26 v0 rfl rfl)
  obtain ⟨ea, len, cap, rfl⟩ := okWide_slice Yba.underlying32 (hval 1 32 v1 rfl rfl)
  obtain ⟨zs, rfl, hwf, hI⟩ := nodes_cells h0
  obtain ⟨eb, eo, x, y, hx, hy, hcell, heb⟩ := edges_cells h1
  clear hA0 hval0
  simp only [List.append_nil] at hW'
  refine (modelLaw_walk zs pn ea cn len cap eb eo x y W hwf hI hx hy hcell heb).mono fun e W' ⟨he, hb⟩ => ?_
  subst he
  have hlt : ∀ z ∈ p0 ++ p1, z.block < W.heap.size := fun z hz => by simpa using hW'.lt z (by simpa using hz)
  refine ⟨_, rfl, _, _, _, [], p0 ++ p1, [], hW', ?_, ?_, rfl, hb.frame _, fun h => by cases h⟩
  · exact trodAll_mk1 (shut_bool Yba.underlying4 _)
  · exact trodAll_mk2 (Below.trod laidOut (by kernel_rfl) (of_decide_eq_true (by kernel_rfl)) h0 hb (fun z hz => hlt z (List.mem_append_left _ hz))) (Below.trod laidOut (by kernel_rfl) (of_decide_eq_true (by kernel_rfl)) h1 hb (fun z hz => hlt z (List.mem_append_right _ hz)))

theorem over : Rows.lawS4461CModelRow.holds Yba.pinned (OpenSpec.ofChange Rows.lawS4461CModelSpec) :=
  OpenClaim.holds_of_wide 4 Yba.f4 rfl rfl rfl rfl rfl rfl rfl ⟨rfl, rfl, rfl, rfl, rfl⟩ rfl rfl rfl rfl rfl (by kernel_rfl) Yba.func4 (by kernel_rfl)
    (of_decide_eq_true (by kernel_rfl)) (by unfold Func.isWrapper; first | (rw [if_pos (by decide +kernel)]; kernel_rfl) | (rw [if_neg (by decide +kernel)]; exact ⟨rfl, rfl⟩))
    (fun os started H enc _ => lifted os started H enc)

theorem proved : Rows.LawS4461CModelSaid := over
end Go.Proofs.Ybulkcnjc.lawS4461CModel
