/-
  No cell of these rows narrows 'for every input' (looked for: loops, veiled, ifaces, maps, wideKeys, modest, calm, conditions, laid).
  DERIVED. THE GIVEN ROWS OF THIS SEAT. 2 by the template 'for every input the law returns true; each argument reads behind the call as it read before'; 0 by the template 'total and deterministic' (their statements: YbulkaqrsTotals.lean).
  GIVEN WITH THE SEED: the statements are not yours to turn. If you find one false, say at which input.
  Laid BY PROGRAM, IN A SANDBOX (cutbox-rows.mjs): the forced cells as the released guide's own fill.sh prints them over the translation dffb861f6a60d6f0… (all of the seat's roots in one cut). By AI agents, Wed Nov 11 2026. No macro, syntax, notation, axiom, sorry.
-/
import Derived.Test.YbulkaqrsChecked
import GoSem.Claim
import GoSem.ClaimJoined
import GoSem.ClaimMapViews
import Derived.JoinedTies
import Derived.KernelRfl
namespace Go.Proofs.Ybulkaqrs
/- THE CELL 'sum', in the pinned program and in every row, IS THE sha256 OF THE DUMP (.gsa) THAT YbulkaqrsProg.lean LOADS. Nothing in Lean hashes anything: it is a label: what it is worth is what the hold of that sum in a sandbox is worth. -/
noncomputable def Yba.pinned : Pinned := { name := "ybulkaqrs", sum := "dffb861f6a60d6f070967996f0eeeae16103d5577f79a9c78df49a498b376414", checked := Yba.checked }
namespace Rows
def none {H : Type} : Left H := { results := [], args := [] }

/-- 'profilum.LawS2111CDecision': WHATEVER THE INPUT: true; the input reads as it did. -/
def lawS2111CDecisionSpec : ChangeSpec := { name := "lawS2111CDecision", fn := fun _ => fun
  | [d1, d2, d3, d4] => { results := [.lit (.bool true)], args := [d1, d2, d3, d4] }
  | _ => none }
def lawS2111CDecisionRow : OpenClaim := { program := "ybulkaqrs", sum := "dffb861f6a60d6f070967996f0eeeae16103d5577f79a9c78df49a498b376414", func := "example.com/profilum/profilum.LawS2111CDecision", spec := "lawS2111CDecision", unfollowed := true, recurses := true, apart := false }
def LawS2111CDecisionSaid : Prop := lawS2111CDecisionRow.holds Yba.pinned (OpenSpec.ofChange lawS2111CDecisionSpec)

/-- ITS FALSE NEIGHBOUR: 'it returns false'. Refute it at one input. -/
def lawS2111CDecisionWrong : ChangeSpec := { name := "lawS2111CDecision", fn := fun _ => fun
  | [d1, d2, d3, d4] => { results := [.lit (.bool false)], args := [d1, d2, d3, d4] }
  | _ => none }
def LawS2111CDecisionWrongFalsely : Prop := lawS2111CDecisionRow.holds Yba.pinned (OpenSpec.ofChange lawS2111CDecisionWrong)

/-- 'profilum.LawS2111CAgreesWithPresent': WHATEVER THE INPUT: true; the input reads as it did. -/
def lawS2111CAgreesWithPresentSpec : ChangeSpec := { name := "lawS2111CAgreesWithPresent", fn := fun _ => fun
  | [d1, d2, d3, d4] => { results := [.lit (.bool true)], args := [d1, d2, d3, d4] }
  | _ => none }
def lawS2111CAgreesWithPresentRow : OpenClaim := { program := "ybulkaqrs", sum := "dffb861f6a60d6f070967996f0eeeae16103d5577f79a9c78df49a498b376414", func := "example.com/profilum/profilum.LawS2111CAgreesWithPresent", spec := "lawS2111CAgreesWithPresent", unfollowed := true, recurses := true, apart := false }
def LawS2111CAgreesWithPresentSaid : Prop := lawS2111CAgreesWithPresentRow.holds Yba.pinned (OpenSpec.ofChange lawS2111CAgreesWithPresentSpec)

/-- ITS FALSE NEIGHBOUR: 'it returns false'. Refute it at one input. -/
def lawS2111CAgreesWithPresentWrong : ChangeSpec := { name := "lawS2111CAgreesWithPresent", fn := fun _ => fun
  | [d1, d2, d3, d4] => { results := [.lit (.bool false)], args := [d1, d2, d3, d4] }
  | _ => none }
def LawS2111CAgreesWithPresentWrongFalsely : Prop := lawS2111CAgreesWithPresentRow.holds Yba.pinned (OpenSpec.ofChange lawS2111CAgreesWithPresentWrong)

end Rows
end Go.Proofs.Ybulkaqrs
