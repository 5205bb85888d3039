/-
  NARROWER THAN 'FOR EVERY INPUT', by the rows' own cells (each row's printed sentence says how): LawS1913BNames: laid · LawS1913BDistinct: laid.
  DERIVED. THE GIVEN ROWS OF THIS SEAT. 2 by the template 'for every input the law returns true; each argument reads behind the call as it read before'; 0 by the template 'total and deterministic' (their statements: YbulkampcFmtTotals.lean).
  GIVEN WITH THE SEED: the statements are not yours to turn. If you find one false, say at which input.
  Laid BY PROGRAM, IN A SANDBOX (cutbox-rows.mjs): the forced cells as the released guide's own fill.sh prints them over the translation 8cc175155afce4b8… (all of the seat's roots in one cut). By AI agents, Wed Nov 11 2026. No macro, syntax, notation, axiom, sorry.
-/
import Derived.Test.YbulkampcFmtChecked
import GoSem.Claim
import GoSem.ClaimJoined
import GoSem.ClaimMapViews
import Derived.JoinedTies
import Derived.KernelRfl
namespace Go.Proofs.YbulkampcFmt
/- THE CELL 'sum', in the pinned program and in every row, IS THE sha256 OF THE DUMP (.gsa) THAT YbulkampcFmtProg.lean LOADS. Nothing in Lean hashes anything: it is a label: what it is worth is what the hold of that sum in a sandbox is worth. -/
noncomputable def Ybaf.pinned : Pinned := { name := "ybulkampcfmt", sum := "8cc175155afce4b87776a5b173d2a4e5cdeb5586a33378f98b9812b7b804cd3c", checked := Ybaf.checked }
namespace Rows
def none {H : Type} : Left H := { results := [], args := [] }

/- WHAT THE LISTED PACKAGE-LEVEL VARIABLES READ AS WHEN THE CALL BEGINS. Each datum BY PROGRAM (the guide's laid-datum.mjs) off the statement by which the dump's own 'gosem.cut.vars' lays the variable. In a bare row this is a premise. The card (YbulkampcFmtCards.lean) ties it to the program's text. -/
def laid_example_com_interlock_interlock_lock_modeNames {H : Type} : DataW H := .agg [.lit (.string []), .lit (.string [73, 83]), .lit (.string [73, 88]), .lit (.string [83]), .lit (.string [83, 73, 88]), .lit (.string [85]), .lit (.string [88])]

/-- 'lock.LawS1913BNames': WHATEVER THE INPUT: true; the input reads as it did. -/
def lawS1913BNamesSpec : ChangeSpec := { name := "lawS1913BNames", vars := ["example.com/interlock/interlock/lock.modeNames"], fn := fun _ => fun
  | [d, g1] => { results := [.lit (.bool true)], args := [d], vars := [g1] }
  | _ => none }
def lawS1913BNamesRow : OpenClaim := { program := "ybulkampcfmt", sum := "8cc175155afce4b87776a5b173d2a4e5cdeb5586a33378f98b9812b7b804cd3c", func := "example.com/interlock/interlock/lock.LawS1913BNames", spec := "lawS1913BNames", stops := ["fmt.Sprintf"], inPlace := ["fmt.Sprintf"], named := ["example.com/interlock/interlock/lock.modeNames"], apart := false, laid := [("example.com/interlock/interlock/lock.modeNames", laid_example_com_interlock_interlock_lock_modeNames)] }
/-- NO THEOREM (fmt's text is open here; it may be false): for the released tool's asking of the row's closed facts alone. THE STATEMENT IS 'LawS1913BNamesToldSaid' (YbulkampcFmtCards.lean). -/
def LawS1913BNamesFormAsk : Prop := lawS1913BNamesRow.holds Ybaf.pinned (OpenSpec.ofChange lawS1913BNamesSpec)

/-- ITS FALSE NEIGHBOUR: 'it returns false'. Refute it at one input. -/
def lawS1913BNamesWrong : ChangeSpec := { name := "lawS1913BNames", vars := ["example.com/interlock/interlock/lock.modeNames"], fn := fun _ => fun
  | [d, g1] => { results := [.lit (.bool false)], args := [d], vars := [g1] }
  | _ => none }
def LawS1913BNamesWrongFormAsk : Prop := lawS1913BNamesRow.holds Ybaf.pinned (OpenSpec.ofChange lawS1913BNamesWrong)

/-- 'lock.LawS1913BDistinct': WHATEVER THE INPUT: true; the input reads as it did. -/
def lawS1913BDistinctSpec : ChangeSpec := { name := "lawS1913BDistinct", vars := ["example.com/interlock/interlock/lock.modeNames"], fn := fun _ => fun
  | [d1, d2, g1] => { results := [.lit (.bool true)], args := [d1, d2], vars := [g1] }
  | _ => none }
def lawS1913BDistinctRow : OpenClaim := { program := "ybulkampcfmt", sum := "8cc175155afce4b87776a5b173d2a4e5cdeb5586a33378f98b9812b7b804cd3c", func := "example.com/interlock/interlock/lock.LawS1913BDistinct", spec := "lawS1913BDistinct", stops := ["fmt.Sprintf"], inPlace := ["fmt.Sprintf"], named := ["example.com/interlock/interlock/lock.modeNames"], apart := false, laid := [("example.com/interlock/interlock/lock.modeNames", laid_example_com_interlock_interlock_lock_modeNames)] }
/-- NO THEOREM (fmt's text is open here; it may be false): for the released tool's asking of the row's closed facts alone. THE STATEMENT IS 'LawS1913BDistinctToldSaid' (YbulkampcFmtCards.lean). -/
def LawS1913BDistinctFormAsk : Prop := lawS1913BDistinctRow.holds Ybaf.pinned (OpenSpec.ofChange lawS1913BDistinctSpec)

/-- ITS FALSE NEIGHBOUR: 'it returns false'. Refute it at one input. -/
def lawS1913BDistinctWrong : ChangeSpec := { name := "lawS1913BDistinct", vars := ["example.com/interlock/interlock/lock.modeNames"], fn := fun _ => fun
  | [d1, d2, g1] => { results := [.lit (.bool false)], args := [d1, d2], vars := [g1] }
  | _ => none }
def LawS1913BDistinctWrongFormAsk : Prop := lawS1913BDistinctRow.holds Ybaf.pinned (OpenSpec.ofChange lawS1913BDistinctWrong)

end Rows
end Go.Proofs.YbulkampcFmt
