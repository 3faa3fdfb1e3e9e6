/-
  DERIVED. GIVEN WITH THE SEED: THE CARDS: each row of YbulkcnjqDoorRows.lean that lists a variable, with what it lists TIED to the program's text (the seventh form; the later family's looks); each row that meets fmt, with fmt's text TOLD by the authors' own Lean function (tested against real Go, not proved from fmt's source: count such statements apart). THE CARD IS WHAT COUNTS. Prove the row's statement (the work); the ties are given (YbulkcnjqDoorTie.lean); close each card by the builder's one call (the guide's Derived/Test/ToyasCard.lean, 'card_holds'). Laid BY PROGRAM, IN A SANDBOX (cutbox-door.mjs). By AI agents, Wed Nov 11 2026. No macro, syntax, notation, axiom, sorry.
-/
import Derived.Test.YbulkcnjqDoorRows
import GoSem.ClaimSeven
namespace Go.Proofs.YbulkcnjqDoor
namespace Rows

/-- THE TIED CARD OF 'check.LawS4462BText'. -/
def lawS4462BTextCard : Claim7 := { stood := { row := lawS4462BTextRow, standIns := [], harness := (true, "8ac8f36aaa556402c79481e499228099b739ba76d031a9d263b4c5db168eaa8c"), looks := true }, kinds := [], alts := [], laidByText := true, laidKinds := [.data, .data, .data], laidTests := true, laidLooks := .later }
def LawS4462BTextCardSaid : Prop := Claim7.holds Ybad.pinned (.plain (OpenSpec.ofChange lawS4462BTextSpec)) lawS4462BTextCard

/-- THE TIED CARD OF 'check.LawS4462BUnder'. -/
def lawS4462BUnderCard : Claim7 := { stood := { row := lawS4462BUnderRow, standIns := [], harness := (true, "8ac8f36aaa556402c79481e499228099b739ba76d031a9d263b4c5db168eaa8c"), looks := true }, kinds := [], alts := [], laidByText := true, laidKinds := [.data, .data, .data], laidTests := true, laidLooks := .later }
def LawS4462BUnderCardSaid : Prop := Claim7.holds Ybad.pinned (.plain (OpenSpec.ofChange lawS4462BUnderSpec)) lawS4462BUnderCard

/-- THE TIED CARD OF 'crx.LawS4462CReadAt'. -/
def lawS4462CReadAtCard : Claim7 := { stood := { row := lawS4462CReadAtRow, standIns := [], harness := (true, "8ac8f36aaa556402c79481e499228099b739ba76d031a9d263b4c5db168eaa8c"), looks := true }, kinds := [], alts := [], laidByText := true, laidKinds := [.sentinel], laidTests := true, laidLooks := .later }
def LawS4462CReadAtCardSaid : Prop := Claim7.holds Ybad.pinned (.plain (OpenSpec.ofChange lawS4462CReadAtSpec)) lawS4462CReadAtCard
end Rows
end Go.Proofs.YbulkcnjqDoor
