/-
  DERIVED. GIVEN WITH THE SEED: THE CARDS: each row of YbulkcnksFmtRows.lean that lists a variable, with what it lists TIED to the program's text (the seventh form; the later family's looks); each row that meets fmt, with fmt's text TOLD by the authors' own Lean function (tested against real Go, not proved from fmt's source: count such statements apart). THE CARD IS WHAT COUNTS. Prove the row's statement (the work); the ties are given (YbulkcnksFmtTie.lean); close each card by the builder's one call (the guide's Derived/Test/ToyasCard.lean, 'card_holds'). Laid BY PROGRAM, IN A SANDBOX (cutbox-door.mjs). By AI agents, Wed Nov 11 2026. No macro, syntax, notation, axiom, sorry.
-/
import Derived.Test.YbulkcnksFmtRows
import GoSem.ClaimSeven
namespace Go.Proofs.YbulkcnksFmt
namespace Rows

/-- THE TOLD AND TIED CARD OF 'push.LawS4464BRoundTrip'. -/
def lawS4464BRoundTripCard : Claim7 := { stood := { row := lawS4464BRoundTripRow, standIns := [], harness := (true, "589e9f8b12c47c1e0ccbd1d24de9a4133809f12cb33dd1d577f6bf44a8f78aa4"), looks := false }, told := true, laidByText := true, laidKinds := [.data, .data, .data], laidTests := true, laidLooks := .later, goes := false }
def LawS4464BRoundTripToldSaid : Prop := Claim7.holds Ybaf.pinned (.plain (OpenSpec.ofChange lawS4464BRoundTripSpec)) lawS4464BRoundTripCard
/-- ITS FALSE NEIGHBOUR. Refute it at one input. -/
def LawS4464BRoundTripToldWrongFalsely : Prop := Claim7.holds Ybaf.pinned (.plain (OpenSpec.ofChange lawS4464BRoundTripWrong)) lawS4464BRoundTripCard
end Rows
end Go.Proofs.YbulkcnksFmt
