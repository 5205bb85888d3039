/-
  DERIVED. GIVEN WITH THE SEED: THE CARDS: each row of YbulkampcFmtRows.lean that lists a variable, with what it lists TIED to the program's text (the seventh form; the later family's looks); each row that meets fmt, with fmt's text TOLD by the authors' own Lean function (tested against real Go, not proved from fmt's source: count such statements apart). THE CARD IS WHAT COUNTS. Prove the row's statement (the work); the ties are given (YbulkampcFmtTie.lean); close each card by the builder's one call (the guide's Derived/Test/ToyasCard.lean, 'card_holds'). Laid BY PROGRAM, IN A SANDBOX (cutbox-door.mjs). By AI agents, Wed Nov 11 2026. No macro, syntax, notation, axiom, sorry.
-/
import Derived.Test.YbulkampcFmtRows
import GoSem.ClaimSeven
namespace Go.Proofs.YbulkampcFmt
namespace Rows

/-- THE TOLD AND TIED CARD OF 'lock.LawS1913BNames'. -/
def lawS1913BNamesCard : Claim7 := { stood := { row := lawS1913BNamesRow, standIns := [], harness := (true, "30864954f785962d1664259016540e70113fce4e2000f1d7152424f0e2d35271"), looks := false }, told := true, laidByText := true, laidKinds := [.wider], laidTests := true, laidLooks := .later, goes := false }
def LawS1913BNamesToldSaid : Prop := Claim7.holds Ybaf.pinned (.plain (OpenSpec.ofChange lawS1913BNamesSpec)) lawS1913BNamesCard
/-- ITS FALSE NEIGHBOUR. Refute it at one input. -/
def LawS1913BNamesToldWrongFalsely : Prop := Claim7.holds Ybaf.pinned (.plain (OpenSpec.ofChange lawS1913BNamesWrong)) lawS1913BNamesCard

/-- THE TOLD AND TIED CARD OF 'lock.LawS1913BDistinct'. -/
def lawS1913BDistinctCard : Claim7 := { stood := { row := lawS1913BDistinctRow, standIns := [], harness := (true, "30864954f785962d1664259016540e70113fce4e2000f1d7152424f0e2d35271"), looks := false }, told := true, laidByText := true, laidKinds := [.wider], laidTests := true, laidLooks := .later, goes := false }
def LawS1913BDistinctToldSaid : Prop := Claim7.holds Ybaf.pinned (.plain (OpenSpec.ofChange lawS1913BDistinctSpec)) lawS1913BDistinctCard
/-- ITS FALSE NEIGHBOUR. Refute it at one input. -/
def LawS1913BDistinctToldWrongFalsely : Prop := Claim7.holds Ybaf.pinned (.plain (OpenSpec.ofChange lawS1913BDistinctWrong)) lawS1913BDistinctCard
end Rows
end Go.Proofs.YbulkampcFmt
