/-
  LawS4463CDecode: the statement.
-/
import Derived.Test.YbulkcnkeDecodeWalk
import Derived.ProofKit
import Derived.OpenShut
import Derived.ShutString
namespace Go.Proofs.Ybulkcnke.lawS4463CDecode
open Go.ChangeShapes Go.WideShapes Go.ChangeAt Go.RowKit
open Go.ChangeMaps (open_string shut_string)

theorem own : ownKnob Yba.prog.godebug = none := by kernel_rfl

set_option maxHeartbeats 400000 in
theorem big (s : ByteArray) (w : World) (hs : ¬ s.size ≤ 4096) :
    Calls Yba.prog 6 #[.string s] w fun e w' => e = .returned (.bool true) ∧ Below w.heap.size w w' := by
  have hs' : (4096 : Int) < s.size := by omega
  go_enter Yba.func6, Yba.ntmps6
  go_wp2
  go_ret
  exact ⟨rfl, Below.refl _ _⟩

theorem walk (a0 : ByteArray) (w : World) :
    Calls Yba.prog 6 #[.string a0] w fun e w' => e = .returned (.bool true) ∧ Below w.heap.size w w' := by
  by_cases hs : a0.size ≤ 4096
  · exact decode_walk a0 w hs
  · exact big a0 w hs

set_option maxRecDepth 100000 in
theorem lifted (os : Os) (started : os.Started) (H : Type) (enc : TypeId × Value → H) :
    ReturnsInHanded {} Yba.checked os 6 .any (Rows.lawS4463CDecodeSpec.pre6 enc Yba.prog Yba.f6 Rows.lawS4463CDecodeRow.domain false) (Rows.lawS4463CDecodeSpec.post enc Yba.prog Yba.f6 false true false false) := by
  refine returnsInHanded_of_change (C := Yba.checked) own started (by kernel_rfl) Yba.func6
    (ChangeSpec.witness6 (enc := enc) (C := Yba.checked) false ⟨#[], #[.string ByteArray.empty], []⟩ 8 (by kernel_rfl) (by kernel_rfl) (by kernel_rfl) (by kernel_rfl)) ?_
  intro W base args ds gs before hval0 hW _ _
  have hval : ∀ (j : Nat) t v, Yba.f6.params[j]? = some t → args[j]? = some v → Value.okWide Yba.prog W .any base t v := hval0
  have hW' := hW
  obtain ⟨p, q, hA0, hV, rfl, hfz, hnd⟩ := hW
  have hA : DataW.TrodAll enc Yba.prog W 0 (fun _ => true) true Yba.f6.params.toList args.toList ds p := hA0
  rw [Yba.params6] at hA hval
  obtain ⟨v0, d0, rfl, rfl, h0⟩ := trodAll_one hA
  obtain ⟨rfl, rfl⟩ := trodVars_none hV
  obtain ⟨a0, rfl, rfl, rfl, w0⟩ := open_string Yba.underlying9 (hval 0 9 v0 rfl rfl) h0
  clear hA0 hval0
  simp only [List.append_nil] at hW'
  refine (walk a0 W).mono fun e W' ⟨he, hb⟩ => ?_
  subst he
  refine ⟨_, rfl, _, _, _, [], [], [], hW', ?_, ?_, rfl, hb.frame _, fun h => by cases h⟩
  · exact trodAll_mk1 (shut_bool Yba.underlying4 _)
  · exact trodAll_mk1 (shut_string Yba.underlying9 w0)

theorem over : Rows.lawS4463CDecodeRow.holds Yba.pinned (OpenSpec.ofChange Rows.lawS4463CDecodeSpec) :=
  OpenClaim.holds_of_wide 6 Yba.f6 rfl rfl rfl rfl rfl rfl rfl ⟨rfl, rfl, rfl, rfl, rfl⟩ rfl rfl rfl rfl rfl (by kernel_rfl) Yba.func6 (by kernel_rfl)
    (of_decide_eq_true (by kernel_rfl)) (by unfold Func.isWrapper; first | (rw [if_pos (by decide +kernel)]; kernel_rfl) | (rw [if_neg (by decide +kernel)]; exact ⟨rfl, rfl⟩))
    (fun os started H enc _ => lifted os started H enc)

theorem proved : Rows.LawS4463CDecodeSaid := over
end Go.Proofs.Ybulkcnke.lawS4463CDecode
