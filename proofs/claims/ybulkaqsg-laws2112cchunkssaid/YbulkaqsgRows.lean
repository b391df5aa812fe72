/-
  No cell of these rows narrows 'for every input' (looked for: loops, veiled, ifaces, maps, wideKeys, modest, calm, conditions, laid).
  DERIVED. THE GIVEN ROWS OF THIS SEAT. 2 by the template 'for every input the law returns true; each argument reads behind the call as it read before'; 0 by the template 'total and deterministic' (their statements: YbulkaqsgTotals.lean).
  GIVEN WITH THE SEED: the statements are not yours to turn. If you find one false, say at which input.
  Laid BY PROGRAM, IN A SANDBOX (cutbox-rows.mjs): the forced cells as the released guide's own fill.sh prints them over the translation 303b9a830806149e… (all of the seat's roots in one cut). By AI agents, Wed Nov 11 2026. No macro, syntax, notation, axiom, sorry.
-/
import Derived.Test.YbulkaqsgChecked
import GoSem.Claim
import GoSem.ClaimJoined
import GoSem.ClaimMapViews
import Derived.JoinedTies
import Derived.KernelRfl
namespace Go.Proofs.Ybulkaqsg
/- THE CELL 'sum', in the pinned program and in every row, IS THE sha256 OF THE DUMP (.gsa) THAT YbulkaqsgProg.lean LOADS. Nothing in Lean hashes anything: it is a label: what it is worth is what the hold of that sum in a sandbox is worth. -/
noncomputable def Yba.pinned : Pinned := { name := "ybulkaqsg", sum := "303b9a830806149e55d73b6716cd60ac8db5f8ccef6dfc80885ed992974a7f4f", checked := Yba.checked }
namespace Rows
def none {H : Type} : Left H := { results := [], args := [] }

/-- 'sm.LawS2112CChunks': WHATEVER THE INPUT: true; the input reads as it did. -/
def lawS2112CChunksSpec : ChangeSpec := { name := "lawS2112CChunks", fn := fun _ => fun
  | [d1, d2] => { results := [.lit (.bool true)], args := [d1, d2] }
  | _ => none }
def lawS2112CChunksRow : OpenClaim := { program := "ybulkaqsg", sum := "303b9a830806149e55d73b6716cd60ac8db5f8ccef6dfc80885ed992974a7f4f", func := "example.com/countersign/countersign/sm.LawS2112CChunks", spec := "lawS2112CChunks", inPlace := ["sync/atomic.LoadUint32", "(*internal/sync.Mutex).Lock", "internal/race.Disable", "sync/atomic.CompareAndSwapInt32", "internal/race.Enable", "internal/race.Acquire", "(*internal/sync.Mutex).lockSlow", "internal/sync.runtime_canSpin", "internal/sync.runtime_doSpin", "internal/sync.throw", "internal/sync.runtime_nanotime", "internal/sync.runtime_SemacquireMutex", "sync/atomic.AddInt32", "(*internal/sync.Mutex).Unlock", "internal/race.ReleaseMerge", "(*internal/sync.Mutex).unlockSlow", "internal/sync.fatal", "internal/sync.runtime_Semrelease", "sync/atomic.StoreUint32"], unfollowed := true, recurses := true, apart := false }
def LawS2112CChunksSaid : Prop := lawS2112CChunksRow.holds Yba.pinned (OpenSpec.ofChange lawS2112CChunksSpec)

/-- ITS FALSE NEIGHBOUR: 'it returns false'. Refute it at one input. -/
def lawS2112CChunksWrong : ChangeSpec := { name := "lawS2112CChunks", fn := fun _ => fun
  | [d1, d2] => { results := [.lit (.bool false)], args := [d1, d2] }
  | _ => none }
def LawS2112CChunksWrongFalsely : Prop := lawS2112CChunksRow.holds Yba.pinned (OpenSpec.ofChange lawS2112CChunksWrong)

/-- 'sm.LawS2112CJoinRoundTrip': WHATEVER THE INPUT: true; the input reads as it did. -/
def lawS2112CJoinRoundTripSpec : ChangeSpec := { name := "lawS2112CJoinRoundTrip", fn := fun _ => fun
  | [d1, d2] => { results := [.lit (.bool true)], args := [d1, d2] }
  | _ => none }
def lawS2112CJoinRoundTripRow : OpenClaim := { program := "ybulkaqsg", sum := "303b9a830806149e55d73b6716cd60ac8db5f8ccef6dfc80885ed992974a7f4f", func := "example.com/countersign/countersign/sm.LawS2112CJoinRoundTrip", spec := "lawS2112CJoinRoundTrip", inPlace := ["sync/atomic.LoadUint32", "(*internal/sync.Mutex).Lock", "internal/race.Disable", "sync/atomic.CompareAndSwapInt32", "internal/race.Enable", "internal/race.Acquire", "(*internal/sync.Mutex).lockSlow", "internal/sync.runtime_canSpin", "internal/sync.runtime_doSpin", "internal/sync.throw", "internal/sync.runtime_nanotime", "internal/sync.runtime_SemacquireMutex", "sync/atomic.AddInt32", "(*internal/sync.Mutex).Unlock", "internal/race.ReleaseMerge", "(*internal/sync.Mutex).unlockSlow", "internal/sync.fatal", "internal/sync.runtime_Semrelease", "sync/atomic.StoreUint32"], unfollowed := true, recurses := true, apart := false }
def LawS2112CJoinRoundTripSaid : Prop := lawS2112CJoinRoundTripRow.holds Yba.pinned (OpenSpec.ofChange lawS2112CJoinRoundTripSpec)

/-- ITS FALSE NEIGHBOUR: 'it returns false'. Refute it at one input. -/
def lawS2112CJoinRoundTripWrong : ChangeSpec := { name := "lawS2112CJoinRoundTrip", fn := fun _ => fun
  | [d1, d2] => { results := [.lit (.bool false)], args := [d1, d2] }
  | _ => none }
def LawS2112CJoinRoundTripWrongFalsely : Prop := lawS2112CJoinRoundTripRow.holds Yba.pinned (OpenSpec.ofChange lawS2112CJoinRoundTripWrong)

end Rows
end Go.Proofs.Ybulkaqsg
