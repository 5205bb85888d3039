/-
  No cell of these rows narrows 'for every input' (looked for: loops, veiled, ifaces, maps, wideKeys, modest, calm, conditions, laid).
  DERIVED. THE GIVEN ROWS OF THIS SEAT. 4 by the template 'for every input the law returns true; each argument reads behind the call as it read before'; 0 by the template 'total and deterministic' (their statements: YbulkamjsTotals.lean).
  GIVEN WITH THE SEED: the statements are not yours to turn. If you find one false, say at which input.
  Laid BY PROGRAM, IN A SANDBOX (cutbox-rows.mjs): the forced cells as the released guide's own fill.sh prints them over the translation 5fb09d518ffbf782… (all of the seat's roots in one cut). By AI agents, Wed Nov 11 2026. No macro, syntax, notation, axiom, sorry.
-/
import Derived.Test.YbulkamjsChecked
import GoSem.Claim
import GoSem.ClaimJoined
import GoSem.ClaimMapViews
import Derived.JoinedTies
import Derived.KernelRfl
namespace Go.Proofs.Ybulkamjs
/- THE CELL 'sum', in the pinned program and in every row, IS THE sha256 OF THE DUMP (.gsa) THAT YbulkamjsProg.lean LOADS. Nothing in Lean hashes anything: it is a label: what it is worth is what the hold of that sum in a sandbox is worth. -/
noncomputable def Yba.pinned : Pinned := { name := "ybulkamjs", sum := "5fb09d518ffbf782e0dadd40ac321b351cf93ae7d87b3d57f44b668c5afd94c9", checked := Yba.checked }
namespace Rows
def none {H : Type} : Left H := { results := [], args := [] }

/-- 'tenebris.LawS1903AExpire': WHATEVER THE INPUT: true; the input reads as it did. -/
def lawS1903AExpireSpec : ChangeSpec := { name := "lawS1903AExpire", fn := fun _ => fun
  | [d1, d2, d3, d4, d5, d6] => { results := [.lit (.bool true)], args := [d1, d2, d3, d4, d5, d6] }
  | _ => none }
def lawS1903AExpireRow : OpenClaim := { program := "ybulkamjs", sum := "5fb09d518ffbf782e0dadd40ac321b351cf93ae7d87b3d57f44b668c5afd94c9", func := "example.com/tenebris/tenebris.LawS1903AExpire", spec := "lawS1903AExpire", unfollowed := true, recurses := true, plainKeys := false, apart := false }
def LawS1903AExpireSaid : Prop := lawS1903AExpireRow.holds Yba.pinned (OpenSpec.ofChange lawS1903AExpireSpec)

/-- ITS FALSE NEIGHBOUR: 'it returns false'. Refute it at one input. -/
def lawS1903AExpireWrong : ChangeSpec := { name := "lawS1903AExpire", fn := fun _ => fun
  | [d1, d2, d3, d4, d5, d6] => { results := [.lit (.bool false)], args := [d1, d2, d3, d4, d5, d6] }
  | _ => none }
def LawS1903AExpireWrongFalsely : Prop := lawS1903AExpireRow.holds Yba.pinned (OpenSpec.ofChange lawS1903AExpireWrong)

/-- 'tenebris.LawS1903BRelease': WHATEVER THE INPUT: true; the input reads as it did. -/
def lawS1903BReleaseSpec : ChangeSpec := { name := "lawS1903BRelease", fn := fun _ => fun
  | [d] => { results := [.lit (.bool true)], args := [d] }
  | _ => none }
def lawS1903BReleaseRow : OpenClaim := { program := "ybulkamjs", sum := "5fb09d518ffbf782e0dadd40ac321b351cf93ae7d87b3d57f44b668c5afd94c9", func := "example.com/tenebris/tenebris.LawS1903BRelease", spec := "lawS1903BRelease", inPlace := ["(*internal/sync.Mutex).Lock", "internal/race.Disable", "sync/atomic.CompareAndSwapInt32", "internal/race.Enable", "internal/race.Acquire", "(*internal/sync.Mutex).lockSlow", "internal/sync.runtime_canSpin", "internal/sync.runtime_doSpin", "internal/sync.throw", "internal/sync.runtime_nanotime", "internal/sync.runtime_SemacquireMutex", "sync/atomic.AddInt32", "(*internal/sync.Mutex).Unlock", "internal/race.ReleaseMerge", "(*internal/sync.Mutex).unlockSlow", "internal/sync.fatal", "internal/sync.runtime_Semrelease"], plainKeys := false, apart := false }
def LawS1903BReleaseSaid : Prop := lawS1903BReleaseRow.holds Yba.pinned (OpenSpec.ofChange lawS1903BReleaseSpec)

/-- ITS FALSE NEIGHBOUR: 'it returns false'. Refute it at one input. -/
def lawS1903BReleaseWrong : ChangeSpec := { name := "lawS1903BRelease", fn := fun _ => fun
  | [d] => { results := [.lit (.bool false)], args := [d] }
  | _ => none }
def LawS1903BReleaseWrongFalsely : Prop := lawS1903BReleaseRow.holds Yba.pinned (OpenSpec.ofChange lawS1903BReleaseWrong)

/-- 'tenebris.LawS1903CFresh': WHATEVER THE INPUT: true; the input reads as it did. -/
def lawS1903CFreshSpec : ChangeSpec := { name := "lawS1903CFresh", fn := fun _ => fun
  | [d1, d2, d3, d4] => { results := [.lit (.bool true)], args := [d1, d2, d3, d4] }
  | _ => none }
def lawS1903CFreshRow : OpenClaim := { program := "ybulkamjs", sum := "5fb09d518ffbf782e0dadd40ac321b351cf93ae7d87b3d57f44b668c5afd94c9", func := "example.com/tenebris/tenebris.LawS1903CFresh", spec := "lawS1903CFresh", unfollowed := true, recurses := true, plainKeys := false, apart := false }
def LawS1903CFreshSaid : Prop := lawS1903CFreshRow.holds Yba.pinned (OpenSpec.ofChange lawS1903CFreshSpec)

/-- ITS FALSE NEIGHBOUR: 'it returns false'. Refute it at one input. -/
def lawS1903CFreshWrong : ChangeSpec := { name := "lawS1903CFresh", fn := fun _ => fun
  | [d1, d2, d3, d4] => { results := [.lit (.bool false)], args := [d1, d2, d3, d4] }
  | _ => none }
def LawS1903CFreshWrongFalsely : Prop := lawS1903CFreshRow.holds Yba.pinned (OpenSpec.ofChange lawS1903CFreshWrong)

/-- 'tenebris.LawS1903CInRound': WHATEVER THE INPUT: true; the input reads as it did. -/
def lawS1903CInRoundSpec : ChangeSpec := { name := "lawS1903CInRound", fn := fun _ => fun
  | [d1, d2, d3, d4, d5] => { results := [.lit (.bool true)], args := [d1, d2, d3, d4, d5] }
  | _ => none }
def lawS1903CInRoundRow : OpenClaim := { program := "ybulkamjs", sum := "5fb09d518ffbf782e0dadd40ac321b351cf93ae7d87b3d57f44b668c5afd94c9", func := "example.com/tenebris/tenebris.LawS1903CInRound", spec := "lawS1903CInRound", unfollowed := true, recurses := true, plainKeys := false, apart := false }
def LawS1903CInRoundSaid : Prop := lawS1903CInRoundRow.holds Yba.pinned (OpenSpec.ofChange lawS1903CInRoundSpec)

/-- ITS FALSE NEIGHBOUR: 'it returns false'. Refute it at one input. -/
def lawS1903CInRoundWrong : ChangeSpec := { name := "lawS1903CInRound", fn := fun _ => fun
  | [d1, d2, d3, d4, d5] => { results := [.lit (.bool false)], args := [d1, d2, d3, d4, d5] }
  | _ => none }
def LawS1903CInRoundWrongFalsely : Prop := lawS1903CInRoundRow.holds Yba.pinned (OpenSpec.ofChange lawS1903CInRoundWrong)

end Rows
end Go.Proofs.Ybulkamjs
