/-
  No cell of these rows narrows 'for every input' (looked for: loops, veiled, ifaces, maps, wideKeys, modest, calm, conditions, laid).
  DERIVED. THE GIVEN ROWS OF THIS SEAT. 4 by the template 'for every input the law returns true; each argument reads behind the call as it read before'; 0 by the template 'total and deterministic' (their statements: YbulkaqpoTotals.lean).
  GIVEN WITH THE SEED: the statements are not yours to turn. If you find one false, say at which input.
  Laid BY PROGRAM, IN A SANDBOX (cutbox-rows.mjs): the forced cells as the released guide's own fill.sh prints them over the translation 41eb8c27ae8a84fd… (all of the seat's roots in one cut). By AI agents, Wed Nov 11 2026. No macro, syntax, notation, axiom, sorry.
-/
import Derived.Test.YbulkaqpoChecked
import GoSem.Claim
import GoSem.ClaimJoined
import GoSem.ClaimMapViews
import Derived.JoinedTies
import Derived.KernelRfl
namespace Go.Proofs.Ybulkaqpo
/- THE CELL 'sum', in the pinned program and in every row, IS THE sha256 OF THE DUMP (.gsa) THAT YbulkaqpoProg.lean LOADS. Nothing in Lean hashes anything: it is a label: what it is worth is what the hold of that sum in a sandbox is worth. -/
noncomputable def Yba.pinned : Pinned := { name := "ybulkaqpo", sum := "41eb8c27ae8a84fdb355c5866e77c566085f860f4df49bc0989c724d381843db", checked := Yba.checked }
namespace Rows
def none {H : Type} : Left H := { results := [], args := [] }

/-- 'journal.LawS2107AModel': WHATEVER THE INPUT: true; the input reads as it did. -/
def lawS2107AModelSpec : ChangeSpec := { name := "lawS2107AModel", fn := fun _ => fun
  | [d] => { results := [.lit (.bool true)], args := [d] }
  | _ => none }
def lawS2107AModelRow : OpenClaim := { program := "ybulkaqpo", sum := "41eb8c27ae8a84fdb355c5866e77c566085f860f4df49bc0989c724d381843db", func := "example.com/berth/berth/internal/journal.LawS2107AModel", spec := "lawS2107AModel", plainKeys := false, apart := false }
def LawS2107AModelSaid : Prop := lawS2107AModelRow.holds Yba.pinned (OpenSpec.ofChange lawS2107AModelSpec)

/-- ITS FALSE NEIGHBOUR: 'it returns false'. Refute it at one input. -/
def lawS2107AModelWrong : ChangeSpec := { name := "lawS2107AModel", fn := fun _ => fun
  | [d] => { results := [.lit (.bool false)], args := [d] }
  | _ => none }
def LawS2107AModelWrongFalsely : Prop := lawS2107AModelRow.holds Yba.pinned (OpenSpec.ofChange lawS2107AModelWrong)

/-- 'journal.LawS2107AAppend': WHATEVER THE INPUT: true; the input reads as it did. -/
def lawS2107AAppendSpec : ChangeSpec := { name := "lawS2107AAppend", fn := fun _ => fun
  | [d1, d2, d3] => { results := [.lit (.bool true)], args := [d1, d2, d3] }
  | _ => none }
def lawS2107AAppendRow : OpenClaim := { program := "ybulkaqpo", sum := "41eb8c27ae8a84fdb355c5866e77c566085f860f4df49bc0989c724d381843db", func := "example.com/berth/berth/internal/journal.LawS2107AAppend", spec := "lawS2107AAppend", plainKeys := false, apart := false }
def LawS2107AAppendSaid : Prop := lawS2107AAppendRow.holds Yba.pinned (OpenSpec.ofChange lawS2107AAppendSpec)

/-- ITS FALSE NEIGHBOUR: 'it returns false'. Refute it at one input. -/
def lawS2107AAppendWrong : ChangeSpec := { name := "lawS2107AAppend", fn := fun _ => fun
  | [d1, d2, d3] => { results := [.lit (.bool false)], args := [d1, d2, d3] }
  | _ => none }
def LawS2107AAppendWrongFalsely : Prop := lawS2107AAppendRow.holds Yba.pinned (OpenSpec.ofChange lawS2107AAppendWrong)

/-- 'fleet.LawS2107BLast': WHATEVER THE INPUT: true; the input reads as it did. -/
def lawS2107BLastSpec : ChangeSpec := { name := "lawS2107BLast", fn := fun _ => fun
  | [d] => { results := [.lit (.bool true)], args := [d] }
  | _ => none }
def lawS2107BLastRow : OpenClaim := { program := "ybulkaqpo", sum := "41eb8c27ae8a84fdb355c5866e77c566085f860f4df49bc0989c724d381843db", func := "example.com/berth/berth/internal/fleet.LawS2107BLast", spec := "lawS2107BLast", inPlace := ["sync/atomic.LoadPointer", "sync/atomic.StorePointer"], plainKeys := false, apart := false }
def LawS2107BLastSaid : Prop := lawS2107BLastRow.holds Yba.pinned (OpenSpec.ofChange lawS2107BLastSpec)

/-- ITS FALSE NEIGHBOUR: 'it returns false'. Refute it at one input. -/
def lawS2107BLastWrong : ChangeSpec := { name := "lawS2107BLast", fn := fun _ => fun
  | [d] => { results := [.lit (.bool false)], args := [d] }
  | _ => none }
def LawS2107BLastWrongFalsely : Prop := lawS2107BLastRow.holds Yba.pinned (OpenSpec.ofChange lawS2107BLastWrong)

/-- 'fleet.LawS2107BValue': WHATEVER THE INPUT: true; the input reads as it did. -/
def lawS2107BValueSpec : ChangeSpec := { name := "lawS2107BValue", fn := fun _ => fun
  | [d1, d2] => { results := [.lit (.bool true)], args := [d1, d2] }
  | _ => none }
def lawS2107BValueRow : OpenClaim := { program := "ybulkaqpo", sum := "41eb8c27ae8a84fdb355c5866e77c566085f860f4df49bc0989c724d381843db", func := "example.com/berth/berth/internal/fleet.LawS2107BValue", spec := "lawS2107BValue", inPlace := ["sync/atomic.LoadPointer", "sync/atomic.StorePointer"], plainKeys := false, apart := false }
def LawS2107BValueSaid : Prop := lawS2107BValueRow.holds Yba.pinned (OpenSpec.ofChange lawS2107BValueSpec)

/-- ITS FALSE NEIGHBOUR: 'it returns false'. Refute it at one input. -/
def lawS2107BValueWrong : ChangeSpec := { name := "lawS2107BValue", fn := fun _ => fun
  | [d1, d2] => { results := [.lit (.bool false)], args := [d1, d2] }
  | _ => none }
def LawS2107BValueWrongFalsely : Prop := lawS2107BValueRow.holds Yba.pinned (OpenSpec.ofChange lawS2107BValueWrong)

end Rows
end Go.Proofs.Ybulkaqpo
