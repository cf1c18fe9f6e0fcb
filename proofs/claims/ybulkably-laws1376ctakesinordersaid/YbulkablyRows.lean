/-
  No cell of these rows narrows 'for every input' (looked for: loops, veiled, ifaces, maps, wideKeys, modest, calm, conditions, laid).
  DERIVED. THE GIVEN ROWS OF THIS SEAT. 2 by the template 'for every input the law returns true; each argument reads behind the call as it read before'; 0 by the template 'total and deterministic' (their statements: YbulkablyTotals.lean).
  GIVEN WITH THE SEED: the statements are not yours to turn. If you find one false, say at which input.
  Laid BY PROGRAM, IN A SANDBOX (cutbox-rows.mjs): the forced cells as the released guide's own fill.sh prints them over the translation 9f11d5e84c99fc0b… (all of the seat's roots in one cut). By AI agents, Wed Nov 11 2026. No macro, syntax, notation, axiom, sorry.
-/
import Derived.Test.YbulkablyChecked
import GoSem.Claim
import GoSem.ClaimJoined
import GoSem.ClaimMapViews
import Derived.JoinedTies
import Derived.KernelRfl
namespace Go.Proofs.Ybulkably
/- THE CELL 'sum', in the pinned program and in every row, IS THE sha256 OF THE DUMP (.gsa) THAT YbulkablyProg.lean LOADS. Nothing in Lean hashes anything: it is a label: what it is worth is what the hold of that sum in a sandbox is worth. -/
noncomputable def Yba.pinned : Pinned := { name := "ybulkably", sum := "9f11d5e84c99fc0b0ab81c1a91d360a3ba7772d6a00fc95bb00008ad15397524", checked := Yba.checked }
namespace Rows
def none {H : Type} : Left H := { results := [], args := [] }

/-- 'dere.LawS1376CTakesInOrder': WHATEVER THE INPUT: true; the input reads as it did. -/
def lawS1376CTakesInOrderSpec : ChangeSpec := { name := "lawS1376CTakesInOrder", fn := fun _ => fun
  | [d1, d2, d3] => { results := [.lit (.bool true)], args := [d1, d2, d3] }
  | _ => none }
def lawS1376CTakesInOrderRow : OpenClaim := { program := "ybulkably", sum := "9f11d5e84c99fc0b0ab81c1a91d360a3ba7772d6a00fc95bb00008ad15397524", func := "example.com/dere/dere.LawS1376CTakesInOrder", spec := "lawS1376CTakesInOrder", inPlace := ["(*internal/sync.Mutex).Lock", "internal/race.Disable", "sync/atomic.CompareAndSwapInt32", "internal/race.Enable", "internal/race.Acquire", "(*internal/sync.Mutex).lockSlow", "internal/sync.runtime_canSpin", "internal/sync.runtime_doSpin", "internal/sync.throw", "internal/sync.runtime_nanotime", "internal/sync.runtime_SemacquireMutex", "sync/atomic.AddInt32", "(*internal/sync.Mutex).Unlock", "internal/race.ReleaseMerge", "(*internal/sync.Mutex).unlockSlow", "internal/sync.fatal", "internal/sync.runtime_Semrelease"], unfollowed := true, recurses := true, apart := false }
def LawS1376CTakesInOrderSaid : Prop := lawS1376CTakesInOrderRow.holds Yba.pinned (OpenSpec.ofChange lawS1376CTakesInOrderSpec)

/-- ITS FALSE NEIGHBOUR: 'it returns false'. Refute it at one input. -/
def lawS1376CTakesInOrderWrong : ChangeSpec := { name := "lawS1376CTakesInOrder", fn := fun _ => fun
  | [d1, d2, d3] => { results := [.lit (.bool false)], args := [d1, d2, d3] }
  | _ => none }
def LawS1376CTakesInOrderWrongFalsely : Prop := lawS1376CTakesInOrderRow.holds Yba.pinned (OpenSpec.ofChange lawS1376CTakesInOrderWrong)

/-- 'dere.LawS1376CIntakeDone': WHATEVER THE INPUT: true; the input reads as it did. -/
def lawS1376CIntakeDoneSpec : ChangeSpec := { name := "lawS1376CIntakeDone", fn := fun _ => fun
  | [d1, d2, d3] => { results := [.lit (.bool true)], args := [d1, d2, d3] }
  | _ => none }
def lawS1376CIntakeDoneRow : OpenClaim := { program := "ybulkably", sum := "9f11d5e84c99fc0b0ab81c1a91d360a3ba7772d6a00fc95bb00008ad15397524", func := "example.com/dere/dere.LawS1376CIntakeDone", spec := "lawS1376CIntakeDone", inPlace := ["(*internal/sync.Mutex).Lock", "internal/race.Disable", "sync/atomic.CompareAndSwapInt32", "internal/race.Enable", "internal/race.Acquire", "(*internal/sync.Mutex).lockSlow", "internal/sync.runtime_canSpin", "internal/sync.runtime_doSpin", "internal/sync.throw", "internal/sync.runtime_nanotime", "internal/sync.runtime_SemacquireMutex", "sync/atomic.AddInt32", "(*internal/sync.Mutex).Unlock", "internal/race.ReleaseMerge", "(*internal/sync.Mutex).unlockSlow", "internal/sync.fatal", "internal/sync.runtime_Semrelease"], unfollowed := true, recurses := true, apart := false }
def LawS1376CIntakeDoneSaid : Prop := lawS1376CIntakeDoneRow.holds Yba.pinned (OpenSpec.ofChange lawS1376CIntakeDoneSpec)

/-- ITS FALSE NEIGHBOUR: 'it returns false'. Refute it at one input. -/
def lawS1376CIntakeDoneWrong : ChangeSpec := { name := "lawS1376CIntakeDone", fn := fun _ => fun
  | [d1, d2, d3] => { results := [.lit (.bool false)], args := [d1, d2, d3] }
  | _ => none }
def LawS1376CIntakeDoneWrongFalsely : Prop := lawS1376CIntakeDoneRow.holds Yba.pinned (OpenSpec.ofChange lawS1376CIntakeDoneWrong)

end Rows
end Go.Proofs.Ybulkably
