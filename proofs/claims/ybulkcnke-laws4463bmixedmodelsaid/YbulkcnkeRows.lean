/-
  No cell of these rows narrows 'for every input' (looked for: loops, veiled, ifaces, maps, wideKeys, modest, calm, conditions, laid).
  DERIVED. THE GIVEN ROWS OF THIS SEAT. 4 by the template 'for every input the law returns true; each argument reads behind the call as it read before'; 0 by the template 'total and deterministic' (their statements: YbulkcnkeTotals.lean).
  GIVEN WITH THE SEED: the statements are not yours to turn. If you find one false, say at which input.
  Laid BY PROGRAM, IN A SANDBOX (cutbox-rows.mjs): the forced cells as the released guide's own fill.sh prints them over the translation 2751da61d9a8db69… (all of the seat's roots in one cut). By AI agents, Wed Nov 11 2026. No macro, syntax, notation, axiom, sorry.
-/
import Derived.Test.YbulkcnkeChecked
import GoSem.Claim
import GoSem.ClaimJoined
import GoSem.ClaimMapViews
import Derived.JoinedTies
import Derived.KernelRfl
namespace Go.Proofs.Ybulkcnke
/- THE CELL 'sum', in the pinned program and in every row, IS THE sha256 OF THE DUMP (.gsa) THAT YbulkcnkeProg.lean LOADS. Nothing in Lean hashes anything: it is a label: what it is worth is what the hold of that sum in a sandbox is worth. -/
noncomputable def Yba.pinned : Pinned := { name := "ybulkcnke", sum := "2751da61d9a8db6966d7814fac684659b138aa6494e70358f371bda7a5fd201f", checked := Yba.checked }
namespace Rows
def none {H : Type} : Left H := { results := [], args := [] }

/-- 'process.LawS4463BAllJoinAncestors': WHATEVER THE INPUT: true; the input reads as it did. -/
def lawS4463BAllJoinAncestorsSpec : ChangeSpec := { name := "lawS4463BAllJoinAncestors", fn := fun _ => fun
  | [d] => { results := [.lit (.bool true)], args := [d] }
  | _ => none }
def lawS4463BAllJoinAncestorsRow : OpenClaim := { program := "ybulkcnke", sum := "2751da61d9a8db6966d7814fac684659b138aa6494e70358f371bda7a5fd201f", func := "example.com/amends/amends/process.LawS4463BAllJoinAncestors", spec := "lawS4463BAllJoinAncestors", unfollowed := true, recurses := true, apart := false }
def LawS4463BAllJoinAncestorsSaid : Prop := lawS4463BAllJoinAncestorsRow.holds Yba.pinned (OpenSpec.ofChange lawS4463BAllJoinAncestorsSpec)

/-- ITS FALSE NEIGHBOUR: 'it returns false'. Refute it at one input. -/
def lawS4463BAllJoinAncestorsWrong : ChangeSpec := { name := "lawS4463BAllJoinAncestors", fn := fun _ => fun
  | [d] => { results := [.lit (.bool false)], args := [d] }
  | _ => none }
def LawS4463BAllJoinAncestorsWrongFalsely : Prop := lawS4463BAllJoinAncestorsRow.holds Yba.pinned (OpenSpec.ofChange lawS4463BAllJoinAncestorsWrong)

/-- 'process.LawS4463BMixedModel': WHATEVER THE INPUT: true; the input reads as it did. -/
def lawS4463BMixedModelSpec : ChangeSpec := { name := "lawS4463BMixedModel", fn := fun _ => fun
  | [d] => { results := [.lit (.bool true)], args := [d] }
  | _ => none }
def lawS4463BMixedModelRow : OpenClaim := { program := "ybulkcnke", sum := "2751da61d9a8db6966d7814fac684659b138aa6494e70358f371bda7a5fd201f", func := "example.com/amends/amends/process.LawS4463BMixedModel", spec := "lawS4463BMixedModel", unfollowed := true, recurses := true, apart := false }
def LawS4463BMixedModelSaid : Prop := lawS4463BMixedModelRow.holds Yba.pinned (OpenSpec.ofChange lawS4463BMixedModelSpec)

/-- ITS FALSE NEIGHBOUR: 'it returns false'. Refute it at one input. -/
def lawS4463BMixedModelWrong : ChangeSpec := { name := "lawS4463BMixedModel", fn := fun _ => fun
  | [d] => { results := [.lit (.bool false)], args := [d] }
  | _ => none }
def LawS4463BMixedModelWrongFalsely : Prop := lawS4463BMixedModelRow.holds Yba.pinned (OpenSpec.ofChange lawS4463BMixedModelWrong)

/-- 'process.LawS4463CModel': WHATEVER THE INPUT: true; the input reads as it did. -/
def lawS4463CModelSpec : ChangeSpec := { name := "lawS4463CModel", fn := fun _ => fun
  | [d] => { results := [.lit (.bool true)], args := [d] }
  | _ => none }
def lawS4463CModelRow : OpenClaim := { program := "ybulkcnke", sum := "2751da61d9a8db6966d7814fac684659b138aa6494e70358f371bda7a5fd201f", func := "example.com/amends/amends/process.LawS4463CModel", spec := "lawS4463CModel", inPlace := ["internal/abi.NoEscape"], apart := false }
def LawS4463CModelSaid : Prop := lawS4463CModelRow.holds Yba.pinned (OpenSpec.ofChange lawS4463CModelSpec)

/-- ITS FALSE NEIGHBOUR: 'it returns false'. Refute it at one input. -/
def lawS4463CModelWrong : ChangeSpec := { name := "lawS4463CModel", fn := fun _ => fun
  | [d] => { results := [.lit (.bool false)], args := [d] }
  | _ => none }
def LawS4463CModelWrongFalsely : Prop := lawS4463CModelRow.holds Yba.pinned (OpenSpec.ofChange lawS4463CModelWrong)

/-- 'process.LawS4463CDecode': WHATEVER THE INPUT: true; the input reads as it did. -/
def lawS4463CDecodeSpec : ChangeSpec := { name := "lawS4463CDecode", fn := fun _ => fun
  | [d] => { results := [.lit (.bool true)], args := [d] }
  | _ => none }
def lawS4463CDecodeRow : OpenClaim := { program := "ybulkcnke", sum := "2751da61d9a8db6966d7814fac684659b138aa6494e70358f371bda7a5fd201f", func := "example.com/amends/amends/process.LawS4463CDecode", spec := "lawS4463CDecode", inPlace := ["internal/abi.NoEscape"], apart := false }
def LawS4463CDecodeSaid : Prop := lawS4463CDecodeRow.holds Yba.pinned (OpenSpec.ofChange lawS4463CDecodeSpec)

/-- ITS FALSE NEIGHBOUR: 'it returns false'. Refute it at one input. -/
def lawS4463CDecodeWrong : ChangeSpec := { name := "lawS4463CDecode", fn := fun _ => fun
  | [d] => { results := [.lit (.bool false)], args := [d] }
  | _ => none }
def LawS4463CDecodeWrongFalsely : Prop := lawS4463CDecodeRow.holds Yba.pinned (OpenSpec.ofChange lawS4463CDecodeWrong)

end Rows
end Go.Proofs.Ybulkcnke
