/-
  DERIVED. GIVEN WITH THE SEED: THE CARDS: each row of YbulkammyDoorRows.lean that lists a variable, with what it lists TIED to the program's text (the seventh form; the later family's looks); each row that meets fmt, with fmt's text TOLD by the authors' own Lean function (tested against real Go, not proved from fmt's source: count such statements apart). THE CARD IS WHAT COUNTS. Prove the row's statement (the work); the ties are given (YbulkammyDoorTie.lean); close each card by the builder's one call (the guide's Derived/Test/ToyasCard.lean, 'card_holds'). Laid BY PROGRAM, IN A SANDBOX (cutbox-door.mjs). By AI agents, Wed Nov 11 2026. No macro, syntax, notation, axiom, sorry.
-/
import Derived.Test.YbulkammyDoorRows
import GoSem.ClaimSeven
namespace Go.Proofs.YbulkammyDoor
namespace Rows

/-- THE TIED CARD OF 'ferrule.LawS1909CModel'. -/
def lawS1909CModelCard : Claim7 := { stood := { row := lawS1909CModelRow, standIns := [], harness := (true, "9f4d16fb7af4ee502573e7b791882aa9c370d076f7d647e132397accdb5e2390"), looks := false }, kinds := [], alts := [], laidByText := true, laidKinds := [.called], laidTests := true, laidLooks := .later }
def LawS1909CModelCardSaid : Prop := Claim7.holds Ybad.pinned (.plain (OpenSpec.ofChange lawS1909CModelSpec)) lawS1909CModelCard

/-- THE TIED CARD OF 'ferrule.LawS1909CFirst'. -/
def lawS1909CFirstCard : Claim7 := { stood := { row := lawS1909CFirstRow, standIns := [], harness := (true, "9f4d16fb7af4ee502573e7b791882aa9c370d076f7d647e132397accdb5e2390"), looks := false }, kinds := [], alts := [], laidByText := true, laidKinds := [.called], laidTests := true, laidLooks := .later }
def LawS1909CFirstCardSaid : Prop := Claim7.holds Ybad.pinned (.plain (OpenSpec.ofChange lawS1909CFirstSpec)) lawS1909CFirstCard
end Rows
end Go.Proofs.YbulkammyDoor
