/-
  NARROWER THAN 'FOR EVERY INPUT', by the rows' own cells (each row's printed sentence says how): LawS1909CModel: laid · LawS1909CFirst: laid.
  DERIVED. THE GIVEN ROWS OF THIS SEAT. 2 by the template 'for every input the law returns true; each argument reads behind the call as it read before'; 0 by the template 'total and deterministic' (their statements: YbulkammyDoorTotals.lean).
  GIVEN WITH THE SEED: the statements are not yours to turn. If you find one false, say at which input.
  Laid BY PROGRAM, IN A SANDBOX (cutbox-rows.mjs): the forced cells as the released guide's own fill.sh prints them over the translation 67ca9c931e058ba2… (all of the seat's roots in one cut). By AI agents, Wed Nov 11 2026. No macro, syntax, notation, axiom, sorry.
-/
import Derived.Test.YbulkammyDoorChecked
import GoSem.Claim
import GoSem.ClaimJoined
import GoSem.ClaimMapViews
import Derived.JoinedTies
import Derived.KernelRfl
namespace Go.Proofs.YbulkammyDoor
/- THE CELL 'sum', in the pinned program and in every row, IS THE sha256 OF THE DUMP (.gsa) THAT YbulkammyDoorProg.lean LOADS. Nothing in Lean hashes anything: it is a label: what it is worth is what the hold of that sum in a sandbox is worth. -/
noncomputable def Ybad.pinned : Pinned := { name := "ybulkammydoor", sum := "67ca9c931e058ba27e5208fd3f71df62eb769415a9a57ed8fd457170f222e6bc", checked := Ybad.checked }
namespace Rows
def none {H : Type} : Left H := { results := [], args := [] }

/- WHAT THE LISTED PACKAGE-LEVEL VARIABLES READ AS WHEN THE CALL BEGINS. Each datum BY PROGRAM (the guide's laid-datum.mjs) off the statement by which the dump's own 'gosem.cut.vars' lays the variable. In a bare row this is a premise. The card (YbulkammyDoorCards.lean) ties it to the program's text. -/
def laid_net_netip_z4 {H : Type} : DataW H := .agg [.ptr (.agg [.lit (.bool false), .lit (.string [])])]

/-- 'ferrule.LawS1909CModel': WHATEVER THE INPUT: true; the input reads as it did. -/
def lawS1909CModelSpec : ChangeSpec := { name := "lawS1909CModel", fn := fun _ => fun
  | [d1, d2, d3, d4, d5, d6, d7, d8] => { results := [.lit (.bool true)], args := [d1, d2, d3, d4, d5, d6, d7, d8] }
  | _ => none }
def lawS1909CModelRow : OpenClaim := { program := "ybulkammydoor", sum := "67ca9c931e058ba27e5208fd3f71df62eb769415a9a57ed8fd457170f222e6bc", func := "example.com/ferrule/ferrule.LawS1909CModel", spec := "lawS1909CModel", unfollowed := true, recurses := true, named := ["net/netip.z4"], apart := false, laid := [("net/netip.z4", laid_net_netip_z4)] }
def LawS1909CModelSaid : Prop := lawS1909CModelRow.holds Ybad.pinned (OpenSpec.ofChange lawS1909CModelSpec)

/-- ITS FALSE NEIGHBOUR: 'it returns false'. Refute it at one input. -/
def lawS1909CModelWrong : ChangeSpec := { name := "lawS1909CModel", fn := fun _ => fun
  | [d1, d2, d3, d4, d5, d6, d7, d8] => { results := [.lit (.bool false)], args := [d1, d2, d3, d4, d5, d6, d7, d8] }
  | _ => none }
def LawS1909CModelWrongFalsely : Prop := lawS1909CModelRow.holds Ybad.pinned (OpenSpec.ofChange lawS1909CModelWrong)

/-- 'ferrule.LawS1909CFirst': WHATEVER THE INPUT: true; the input reads as it did. -/
def lawS1909CFirstSpec : ChangeSpec := { name := "lawS1909CFirst", fn := fun _ => fun
  | [d1, d2, d3, d4] => { results := [.lit (.bool true)], args := [d1, d2, d3, d4] }
  | _ => none }
def lawS1909CFirstRow : OpenClaim := { program := "ybulkammydoor", sum := "67ca9c931e058ba27e5208fd3f71df62eb769415a9a57ed8fd457170f222e6bc", func := "example.com/ferrule/ferrule.LawS1909CFirst", spec := "lawS1909CFirst", unfollowed := true, recurses := true, named := ["net/netip.z4"], apart := false, laid := [("net/netip.z4", laid_net_netip_z4)] }
def LawS1909CFirstSaid : Prop := lawS1909CFirstRow.holds Ybad.pinned (OpenSpec.ofChange lawS1909CFirstSpec)

/-- ITS FALSE NEIGHBOUR: 'it returns false'. Refute it at one input. -/
def lawS1909CFirstWrong : ChangeSpec := { name := "lawS1909CFirst", fn := fun _ => fun
  | [d1, d2, d3, d4] => { results := [.lit (.bool false)], args := [d1, d2, d3, d4] }
  | _ => none }
def LawS1909CFirstWrongFalsely : Prop := lawS1909CFirstRow.holds Ybad.pinned (OpenSpec.ofChange lawS1909CFirstWrong)

end Rows
end Go.Proofs.YbulkammyDoor
