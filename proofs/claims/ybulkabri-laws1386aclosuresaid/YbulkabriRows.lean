/-
  No cell of these rows narrows 'for every input' (looked for: loops, veiled, ifaces, maps, wideKeys, modest, calm, conditions, laid).
  DERIVED. THE GIVEN ROWS OF THIS SEAT. 2 by the template 'for every input the law returns true; each argument reads behind the call as it read before'; 0 by the template 'total and deterministic' (their statements: YbulkabriTotals.lean).
  GIVEN WITH THE SEED: the statements are not yours to turn. If you find one false, say at which input.
  Laid BY PROGRAM, IN A SANDBOX (cutbox-rows.mjs): the forced cells as the released guide's own fill.sh prints them over the translation 29b2ec9e6b933487… (all of the seat's roots in one cut). By AI agents, Wed Nov 11 2026. No macro, syntax, notation, axiom, sorry.
-/
import Derived.Test.YbulkabriChecked
import GoSem.Claim
import GoSem.ClaimJoined
import GoSem.ClaimMapViews
import Derived.JoinedTies
import Derived.KernelRfl
namespace Go.Proofs.Ybulkabri
/- THE CELL 'sum', in the pinned program and in every row, IS THE sha256 OF THE DUMP (.gsa) THAT YbulkabriProg.lean LOADS. Nothing in Lean hashes anything: it is a label: what it is worth is what the hold of that sum in a sandbox is worth. -/
noncomputable def Yba.pinned : Pinned := { name := "ybulkabri", sum := "29b2ec9e6b93348740865b469565868e5867b237ca7be9a3cb166c0f5fa86763", checked := Yba.checked }
namespace Rows
def none {H : Type} : Left H := { results := [], args := [] }

/-- 'rules.LawS1386AClosure': WHATEVER THE INPUT: true; the input reads as it did. -/
def lawS1386AClosureSpec : ChangeSpec := { name := "lawS1386AClosure", fn := fun _ => fun
  | [d1, d2, d3, d4] => { results := [.lit (.bool true)], args := [d1, d2, d3, d4] }
  | _ => none }
def lawS1386AClosureRow : OpenClaim := { program := "ybulkabri", sum := "29b2ec9e6b93348740865b469565868e5867b237ca7be9a3cb166c0f5fa86763", func := "example.com/sekiren/sekiren/pkg/rules.LawS1386AClosure", spec := "lawS1386AClosure", apart := false }
def LawS1386AClosureSaid : Prop := lawS1386AClosureRow.holds Yba.pinned (OpenSpec.ofChange lawS1386AClosureSpec)

/-- ITS FALSE NEIGHBOUR: 'it returns false'. Refute it at one input. -/
def lawS1386AClosureWrong : ChangeSpec := { name := "lawS1386AClosure", fn := fun _ => fun
  | [d1, d2, d3, d4] => { results := [.lit (.bool false)], args := [d1, d2, d3, d4] }
  | _ => none }
def LawS1386AClosureWrongFalsely : Prop := lawS1386AClosureRow.holds Yba.pinned (OpenSpec.ofChange lawS1386AClosureWrong)

/-- 'rules.LawS1386AIdempotent': WHATEVER THE INPUT: true; the input reads as it did. -/
def lawS1386AIdempotentSpec : ChangeSpec := { name := "lawS1386AIdempotent", fn := fun _ => fun
  | [d1, d2, d3, d4] => { results := [.lit (.bool true)], args := [d1, d2, d3, d4] }
  | _ => none }
def lawS1386AIdempotentRow : OpenClaim := { program := "ybulkabri", sum := "29b2ec9e6b93348740865b469565868e5867b237ca7be9a3cb166c0f5fa86763", func := "example.com/sekiren/sekiren/pkg/rules.LawS1386AIdempotent", spec := "lawS1386AIdempotent", apart := false }
def LawS1386AIdempotentSaid : Prop := lawS1386AIdempotentRow.holds Yba.pinned (OpenSpec.ofChange lawS1386AIdempotentSpec)

/-- ITS FALSE NEIGHBOUR: 'it returns false'. Refute it at one input. -/
def lawS1386AIdempotentWrong : ChangeSpec := { name := "lawS1386AIdempotent", fn := fun _ => fun
  | [d1, d2, d3, d4] => { results := [.lit (.bool false)], args := [d1, d2, d3, d4] }
  | _ => none }
def LawS1386AIdempotentWrongFalsely : Prop := lawS1386AIdempotentRow.holds Yba.pinned (OpenSpec.ofChange lawS1386AIdempotentWrong)

end Rows
end Go.Proofs.Ybulkabri
