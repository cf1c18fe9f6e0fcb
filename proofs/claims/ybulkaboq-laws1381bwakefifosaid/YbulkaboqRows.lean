/-
  No cell of these rows narrows 'for every input' (looked for: loops, veiled, ifaces, maps, wideKeys, modest, calm, conditions, laid).
  DERIVED. THE GIVEN ROWS OF THIS SEAT. 2 by the template 'for every input the law returns true; each argument reads behind the call as it read before'; 0 by the template 'total and deterministic' (their statements: YbulkaboqTotals.lean).
  GIVEN WITH THE SEED: the statements are not yours to turn. If you find one false, say at which input.
  Laid BY PROGRAM, IN A SANDBOX (cutbox-rows.mjs): the forced cells as the released guide's own fill.sh prints them over the translation f9ed0b7df4215c7f… (all of the seat's roots in one cut). By AI agents, Wed Nov 11 2026. No macro, syntax, notation, axiom, sorry.
-/
import Derived.Test.YbulkaboqChecked
import GoSem.Claim
import GoSem.ClaimJoined
import GoSem.ClaimMapViews
import Derived.JoinedTies
import Derived.KernelRfl
namespace Go.Proofs.Ybulkaboq
/- THE CELL 'sum', in the pinned program and in every row, IS THE sha256 OF THE DUMP (.gsa) THAT YbulkaboqProg.lean LOADS. Nothing in Lean hashes anything: it is a label: what it is worth is what the hold of that sum in a sandbox is worth. -/
noncomputable def Yba.pinned : Pinned := { name := "ybulkaboq", sum := "f9ed0b7df4215c7f05dc71e7b41e1b320a6f3935a192042815ea3d3a24443324", checked := Yba.checked }
namespace Rows
def none {H : Type} : Left H := { results := [], args := [] }

/-- 'waitq.LawS1381BWakeFIFO': WHATEVER THE INPUT: true; the input reads as it did. -/
def lawS1381BWakeFIFOSpec : ChangeSpec := { name := "lawS1381BWakeFIFO", fn := fun _ => fun
  | [d1, d2, d3] => { results := [.lit (.bool true)], args := [d1, d2, d3] }
  | _ => none }
def lawS1381BWakeFIFORow : OpenClaim := { program := "ybulkaboq", sum := "f9ed0b7df4215c7f05dc71e7b41e1b320a6f3935a192042815ea3d3a24443324", func := "example.com/latchwork/latchwork/internal/waitq.LawS1381BWakeFIFO", spec := "lawS1381BWakeFIFO", inPlace := ["sync/atomic.CompareAndSwapUint32", "runtime.Gosched", "sync/atomic.StoreUint32", "sync/atomic.LoadUint32"], unfollowed := true, recurses := true, apart := false }
def LawS1381BWakeFIFOSaid : Prop := lawS1381BWakeFIFORow.holds Yba.pinned (OpenSpec.ofChange lawS1381BWakeFIFOSpec)

/-- ITS FALSE NEIGHBOUR: 'it returns false'. Refute it at one input. -/
def lawS1381BWakeFIFOWrong : ChangeSpec := { name := "lawS1381BWakeFIFO", fn := fun _ => fun
  | [d1, d2, d3] => { results := [.lit (.bool false)], args := [d1, d2, d3] }
  | _ => none }
def LawS1381BWakeFIFOWrongFalsely : Prop := lawS1381BWakeFIFORow.holds Yba.pinned (OpenSpec.ofChange lawS1381BWakeFIFOWrong)

/-- 'latchwork.LawS1381CNonZeroPasses': WHATEVER THE INPUT: true; the input reads as it did. -/
def lawS1381CNonZeroPassesSpec : ChangeSpec := { name := "lawS1381CNonZeroPasses", fn := fun _ => fun
  | [d] => { results := [.lit (.bool true)], args := [d] }
  | _ => none }
def lawS1381CNonZeroPassesRow : OpenClaim := { program := "ybulkaboq", sum := "f9ed0b7df4215c7f05dc71e7b41e1b320a6f3935a192042815ea3d3a24443324", func := "example.com/latchwork/latchwork.LawS1381CNonZeroPasses", spec := "lawS1381CNonZeroPasses", apart := false }
def LawS1381CNonZeroPassesSaid : Prop := lawS1381CNonZeroPassesRow.holds Yba.pinned (OpenSpec.ofChange lawS1381CNonZeroPassesSpec)

/-- ITS FALSE NEIGHBOUR: 'it returns false'. Refute it at one input. -/
def lawS1381CNonZeroPassesWrong : ChangeSpec := { name := "lawS1381CNonZeroPasses", fn := fun _ => fun
  | [d] => { results := [.lit (.bool false)], args := [d] }
  | _ => none }
def LawS1381CNonZeroPassesWrongFalsely : Prop := lawS1381CNonZeroPassesRow.holds Yba.pinned (OpenSpec.ofChange lawS1381CNonZeroPassesWrong)

end Rows
end Go.Proofs.Ybulkaboq
