/-
  No cell of these rows narrows 'for every input' (looked for: loops, veiled, ifaces, maps, wideKeys, modest, calm, conditions, laid).
  DERIVED. THE GIVEN ROWS OF THIS SEAT. 2 by the template 'for every input the law returns true; each argument reads behind the call as it read before'; 0 by the template 'total and deterministic' (their statements: YbulkcnjcTotals.lean).
  GIVEN WITH THE SEED: the statements are not yours to turn. If you find one false, say at which input.
  Laid BY PROGRAM, IN A SANDBOX (cutbox-rows.mjs): the forced cells as the released guide's own fill.sh prints them over the translation 2cef5d18828b1df2… (all of the seat's roots in one cut). By AI agents, Wed Nov 11 2026. No macro, syntax, notation, axiom, sorry.
-/
import Derived.Test.YbulkcnjcChecked
import GoSem.Claim
import GoSem.ClaimJoined
import GoSem.ClaimMapViews
import Derived.JoinedTies
import Derived.KernelRfl
namespace Go.Proofs.Ybulkcnjc
/- THE CELL 'sum', in the pinned program and in every row, IS THE sha256 OF THE DUMP (.gsa) THAT YbulkcnjcProg.lean LOADS. Nothing in Lean hashes anything: it is a label: what it is worth is what the hold of that sum in a sandbox is worth. -/
noncomputable def Yba.pinned : Pinned := { name := "ybulkcnjc", sum := "2cef5d18828b1df2c0bfc598208423db91795b402d00df35924ab974051bde16", checked := Yba.checked }
namespace Rows
def none {H : Type} : Left H := { results := [], args := [] }

/-- 'serialis.LawS4461ASmallest': WHATEVER THE INPUT: true; the input reads as it did. -/
def lawS4461ASmallestSpec : ChangeSpec := { name := "lawS4461ASmallest", fn := fun _ => fun
  | [d1, d2, d3] => { results := [.lit (.bool true)], args := [d1, d2, d3] }
  | _ => none }
def lawS4461ASmallestRow : OpenClaim := { program := "ybulkcnjc", sum := "2cef5d18828b1df2c0bfc598208423db91795b402d00df35924ab974051bde16", func := "example.com/serialis/serialis.LawS4461ASmallest", spec := "lawS4461ASmallest", unfollowed := true, recurses := true, apart := false }
def LawS4461ASmallestSaid : Prop := lawS4461ASmallestRow.holds Yba.pinned (OpenSpec.ofChange lawS4461ASmallestSpec)

/-- ITS FALSE NEIGHBOUR: 'it returns false'. Refute it at one input. -/
def lawS4461ASmallestWrong : ChangeSpec := { name := "lawS4461ASmallest", fn := fun _ => fun
  | [d1, d2, d3] => { results := [.lit (.bool false)], args := [d1, d2, d3] }
  | _ => none }
def LawS4461ASmallestWrongFalsely : Prop := lawS4461ASmallestRow.holds Yba.pinned (OpenSpec.ofChange lawS4461ASmallestWrong)

/-- 'serialis.LawS4461CModel': WHATEVER THE INPUT: true; the input reads as it did. -/
def lawS4461CModelSpec : ChangeSpec := { name := "lawS4461CModel", fn := fun _ => fun
  | [d1, d2] => { results := [.lit (.bool true)], args := [d1, d2] }
  | _ => none }
def lawS4461CModelRow : OpenClaim := { program := "ybulkcnjc", sum := "2cef5d18828b1df2c0bfc598208423db91795b402d00df35924ab974051bde16", func := "example.com/serialis/serialis.LawS4461CModel", spec := "lawS4461CModel", unfollowed := true, recurses := true, apart := false }
def LawS4461CModelSaid : Prop := lawS4461CModelRow.holds Yba.pinned (OpenSpec.ofChange lawS4461CModelSpec)

/-- ITS FALSE NEIGHBOUR: 'it returns false'. Refute it at one input. -/
def lawS4461CModelWrong : ChangeSpec := { name := "lawS4461CModel", fn := fun _ => fun
  | [d1, d2] => { results := [.lit (.bool false)], args := [d1, d2] }
  | _ => none }
def LawS4461CModelWrongFalsely : Prop := lawS4461CModelRow.holds Yba.pinned (OpenSpec.ofChange lawS4461CModelWrong)

end Rows
end Go.Proofs.Ybulkcnjc
