/-
  No cell of these rows narrows 'for every input' (looked for: loops, veiled, ifaces, maps, wideKeys, modest, calm, conditions, laid).
  DERIVED. THE GIVEN ROWS OF THIS SEAT. 2 by the template 'for every input the law returns true; each argument reads behind the call as it read before'; 0 by the template 'total and deterministic' (their statements: YbulkammyTotals.lean).
  GIVEN WITH THE SEED: the statements are not yours to turn. If you find one false, say at which input.
  Laid BY PROGRAM, IN A SANDBOX (cutbox-rows.mjs): the forced cells as the released guide's own fill.sh prints them over the translation 7bba144521e11891… (all of the seat's roots in one cut). By AI agents, Wed Nov 11 2026. No macro, syntax, notation, axiom, sorry.
-/
import Derived.Test.YbulkammyChecked
import GoSem.Claim
import GoSem.ClaimJoined
import GoSem.ClaimMapViews
import Derived.JoinedTies
import Derived.KernelRfl
namespace Go.Proofs.Ybulkammy
/- THE CELL 'sum', in the pinned program and in every row, IS THE sha256 OF THE DUMP (.gsa) THAT YbulkammyProg.lean LOADS. Nothing in Lean hashes anything: it is a label: what it is worth is what the hold of that sum in a sandbox is worth. -/
noncomputable def Yba.pinned : Pinned := { name := "ybulkammy", sum := "7bba144521e118917da4bcebe64e44bac78d7d248c7c41de99df02ab6690dc98", checked := Yba.checked }
namespace Rows
def none {H : Type} : Left H := { results := [], args := [] }

/-- 'ferrule.LawS1909BExact': WHATEVER THE INPUT: true; the input reads as it did. -/
def lawS1909BExactSpec : ChangeSpec := { name := "lawS1909BExact", fn := fun _ => fun
  | [d1, d2, d3] => { results := [.lit (.bool true)], args := [d1, d2, d3] }
  | _ => none }
def lawS1909BExactRow : OpenClaim := { program := "ybulkammy", sum := "7bba144521e118917da4bcebe64e44bac78d7d248c7c41de99df02ab6690dc98", func := "example.com/ferrule/ferrule.LawS1909BExact", spec := "lawS1909BExact", named := ["encoding/binary.BigEndian"], apart := false }
def LawS1909BExactSaid : Prop := lawS1909BExactRow.holds Yba.pinned (OpenSpec.ofChange lawS1909BExactSpec)

/-- ITS FALSE NEIGHBOUR: 'it returns false'. Refute it at one input. -/
def lawS1909BExactWrong : ChangeSpec := { name := "lawS1909BExact", fn := fun _ => fun
  | [d1, d2, d3] => { results := [.lit (.bool false)], args := [d1, d2, d3] }
  | _ => none }
def LawS1909BExactWrongFalsely : Prop := lawS1909BExactRow.holds Yba.pinned (OpenSpec.ofChange lawS1909BExactWrong)

/-- 'ferrule.LawS1909BIdempotent': WHATEVER THE INPUT: true; the input reads as it did. -/
def lawS1909BIdempotentSpec : ChangeSpec := { name := "lawS1909BIdempotent", fn := fun _ => fun
  | [d1, d2, d3] => { results := [.lit (.bool true)], args := [d1, d2, d3] }
  | _ => none }
def lawS1909BIdempotentRow : OpenClaim := { program := "ybulkammy", sum := "7bba144521e118917da4bcebe64e44bac78d7d248c7c41de99df02ab6690dc98", func := "example.com/ferrule/ferrule.LawS1909BIdempotent", spec := "lawS1909BIdempotent", named := ["encoding/binary.BigEndian"], apart := false }
def LawS1909BIdempotentSaid : Prop := lawS1909BIdempotentRow.holds Yba.pinned (OpenSpec.ofChange lawS1909BIdempotentSpec)

/-- ITS FALSE NEIGHBOUR: 'it returns false'. Refute it at one input. -/
def lawS1909BIdempotentWrong : ChangeSpec := { name := "lawS1909BIdempotent", fn := fun _ => fun
  | [d1, d2, d3] => { results := [.lit (.bool false)], args := [d1, d2, d3] }
  | _ => none }
def LawS1909BIdempotentWrongFalsely : Prop := lawS1909BIdempotentRow.holds Yba.pinned (OpenSpec.ofChange lawS1909BIdempotentWrong)

end Rows
end Go.Proofs.Ybulkammy
