/-
  No cell of these rows narrows 'for every input' (looked for: loops, veiled, ifaces, maps, wideKeys, modest, calm, conditions, laid).
  DERIVED. THE GIVEN ROWS OF THIS SEAT. 1 by the template 'for every input the law returns true; each argument reads behind the call as it read before'; 0 by the template 'total and deterministic' (their statements: YbulkamrgTotals.lean).
  GIVEN WITH THE SEED: the statements are not yours to turn. If you find one false, say at which input.
  Laid BY PROGRAM, IN A SANDBOX (cutbox-rows.mjs): the forced cells as the released guide's own fill.sh prints them over the translation 9f59408dc0c48394… (all of the seat's roots in one cut). By AI agents, Wed Nov 11 2026. No macro, syntax, notation, axiom, sorry.
-/
import Derived.Test.YbulkamrgChecked
import GoSem.Claim
import GoSem.ClaimJoined
import GoSem.ClaimMapViews
import Derived.JoinedTies
import Derived.KernelRfl
namespace Go.Proofs.Ybulkamrg
/- THE CELL 'sum', in the pinned program and in every row, IS THE sha256 OF THE DUMP (.gsa) THAT YbulkamrgProg.lean LOADS. Nothing in Lean hashes anything: it is a label: what it is worth is what the hold of that sum in a sandbox is worth. -/
noncomputable def Yba.pinned : Pinned := { name := "ybulkamrg", sum := "9f59408dc0c483948f22ccc5cba71bf596427ecb220b952128c7263677c53459", checked := Yba.checked }
namespace Rows
def none {H : Type} : Left H := { results := [], args := [] }

/-- 'waypick.LawS1917CPick': WHATEVER THE INPUT: true; the input reads as it did. -/
def lawS1917CPickSpec : ChangeSpec := { name := "lawS1917CPick", fn := fun _ => fun
  | [d1, d2, d3, d4, d5] => { results := [.lit (.bool true)], args := [d1, d2, d3, d4, d5] }
  | _ => none }
def lawS1917CPickRow : OpenClaim := { program := "ybulkamrg", sum := "9f59408dc0c483948f22ccc5cba71bf596427ecb220b952128c7263677c53459", func := "example.com/waypick/waypick.LawS1917CPick", spec := "lawS1917CPick", apart := false }
def LawS1917CPickSaid : Prop := lawS1917CPickRow.holds Yba.pinned (OpenSpec.ofChange lawS1917CPickSpec)

/-- ITS FALSE NEIGHBOUR: 'it returns false'. Refute it at one input. -/
def lawS1917CPickWrong : ChangeSpec := { name := "lawS1917CPick", fn := fun _ => fun
  | [d1, d2, d3, d4, d5] => { results := [.lit (.bool false)], args := [d1, d2, d3, d4, d5] }
  | _ => none }
def LawS1917CPickWrongFalsely : Prop := lawS1917CPickRow.holds Yba.pinned (OpenSpec.ofChange lawS1917CPickWrong)

end Rows
end Go.Proofs.Ybulkamrg
