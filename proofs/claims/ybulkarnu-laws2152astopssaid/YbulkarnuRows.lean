/-
  No cell of these rows narrows 'for every input' (looked for: loops, veiled, ifaces, maps, wideKeys, modest, calm, conditions, laid).
  DERIVED. THE GIVEN ROWS OF THIS SEAT. 2 by the template 'for every input the law returns true; each argument reads behind the call as it read before'; 0 by the template 'total and deterministic' (their statements: YbulkarnuTotals.lean).
  GIVEN WITH THE SEED: the statements are not yours to turn. If you find one false, say at which input.
  Laid BY PROGRAM, IN A SANDBOX (cutbox-rows.mjs): the forced cells as the released guide's own fill.sh prints them over the translation b4e67ad5a86f7c5f… (all of the seat's roots in one cut). By AI agents, Wed Nov 11 2026. No macro, syntax, notation, axiom, sorry.
-/
import Derived.Test.YbulkarnuChecked
import GoSem.Claim
import GoSem.ClaimJoined
import GoSem.ClaimMapViews
import Derived.JoinedTies
import Derived.KernelRfl
namespace Go.Proofs.Ybulkarnu
/- THE CELL 'sum', in the pinned program and in every row, IS THE sha256 OF THE DUMP (.gsa) THAT YbulkarnuProg.lean LOADS. Nothing in Lean hashes anything: it is a label: what it is worth is what the hold of that sum in a sandbox is worth. -/
noncomputable def Yba.pinned : Pinned := { name := "ybulkarnu", sum := "b4e67ad5a86f7c5fcc05a44504d81acd28980ab8500f5be49dc8c68bae3a90e5", checked := Yba.checked }
namespace Rows
def none {H : Type} : Left H := { results := [], args := [] }

/-- 'plumbline.LawS2152AStops': WHATEVER THE INPUT: true; the input reads as it did. -/
def lawS2152AStopsSpec : ChangeSpec := { name := "lawS2152AStops", fn := fun _ => fun
  | [d1, d2] => { results := [.lit (.bool true)], args := [d1, d2] }
  | _ => none }
def lawS2152AStopsRow : OpenClaim := { program := "ybulkarnu", sum := "b4e67ad5a86f7c5fcc05a44504d81acd28980ab8500f5be49dc8c68bae3a90e5", func := "example.com/plumbline/plumbline.LawS2152AStops", spec := "lawS2152AStops", apart := false }
def LawS2152AStopsSaid : Prop := lawS2152AStopsRow.holds Yba.pinned (OpenSpec.ofChange lawS2152AStopsSpec)

/-- ITS FALSE NEIGHBOUR: 'it returns false'. Refute it at one input. -/
def lawS2152AStopsWrong : ChangeSpec := { name := "lawS2152AStops", fn := fun _ => fun
  | [d1, d2] => { results := [.lit (.bool false)], args := [d1, d2] }
  | _ => none }
def LawS2152AStopsWrongFalsely : Prop := lawS2152AStopsRow.holds Yba.pinned (OpenSpec.ofChange lawS2152AStopsWrong)

/-- 'plumbline.LawS2152AAgree': WHATEVER THE INPUT: true; the input reads as it did. -/
def lawS2152AAgreeSpec : ChangeSpec := { name := "lawS2152AAgree", fn := fun _ => fun
  | [d1, d2] => { results := [.lit (.bool true)], args := [d1, d2] }
  | _ => none }
def lawS2152AAgreeRow : OpenClaim := { program := "ybulkarnu", sum := "b4e67ad5a86f7c5fcc05a44504d81acd28980ab8500f5be49dc8c68bae3a90e5", func := "example.com/plumbline/plumbline.LawS2152AAgree", spec := "lawS2152AAgree", apart := false }
def LawS2152AAgreeSaid : Prop := lawS2152AAgreeRow.holds Yba.pinned (OpenSpec.ofChange lawS2152AAgreeSpec)

/-- ITS FALSE NEIGHBOUR: 'it returns false'. Refute it at one input. -/
def lawS2152AAgreeWrong : ChangeSpec := { name := "lawS2152AAgree", fn := fun _ => fun
  | [d1, d2] => { results := [.lit (.bool false)], args := [d1, d2] }
  | _ => none }
def LawS2152AAgreeWrongFalsely : Prop := lawS2152AAgreeRow.holds Yba.pinned (OpenSpec.ofChange lawS2152AAgreeWrong)

end Rows
end Go.Proofs.Ybulkarnu
