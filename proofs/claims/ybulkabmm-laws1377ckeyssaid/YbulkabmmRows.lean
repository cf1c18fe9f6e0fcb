/-
  No cell of these rows narrows 'for every input' (looked for: loops, veiled, ifaces, maps, wideKeys, modest, calm, conditions, laid).
  DERIVED. THE GIVEN ROWS OF THIS SEAT. 4 by the template 'for every input the law returns true; each argument reads behind the call as it read before'; 0 by the template 'total and deterministic' (their statements: YbulkabmmTotals.lean).
  GIVEN WITH THE SEED: the statements are not yours to turn. If you find one false, say at which input.
  Laid BY PROGRAM, IN A SANDBOX (cutbox-rows.mjs): the forced cells as the released guide's own fill.sh prints them over the translation 64d30fc7e9b40506… (all of the seat's roots in one cut). By AI agents, Wed Nov 11 2026. No macro, syntax, notation, axiom, sorry.
-/
import Derived.Test.YbulkabmmChecked
import GoSem.Claim
import GoSem.ClaimJoined
import GoSem.ClaimMapViews
import Derived.JoinedTies
import Derived.KernelRfl
namespace Go.Proofs.Ybulkabmm
/- THE CELL 'sum', in the pinned program and in every row, IS THE sha256 OF THE DUMP (.gsa) THAT YbulkabmmProg.lean LOADS. Nothing in Lean hashes anything: it is a label: what it is worth is what the hold of that sum in a sandbox is worth. -/
noncomputable def Yba.pinned : Pinned := { name := "ybulkabmm", sum := "64d30fc7e9b40506e3130339839bbac359d701ee8f4a6ecc9b1c7736d2a1777e", checked := Yba.checked }
namespace Rows
def none {H : Type} : Left H := { results := [], args := [] }

/-- 'analysis.LawS1377AExact': WHATEVER THE INPUT: true; the input reads as it did. -/
def lawS1377AExactSpec : ChangeSpec := { name := "lawS1377AExact", fn := fun _ => fun
  | [d1, d2, d3, d4, d5, d6, d7] => { results := [.lit (.bool true)], args := [d1, d2, d3, d4, d5, d6, d7] }
  | _ => none }
def lawS1377AExactRow : OpenClaim := { program := "ybulkabmm", sum := "64d30fc7e9b40506e3130339839bbac359d701ee8f4a6ecc9b1c7736d2a1777e", func := "example.com/interlace/interlace/internal/analysis.LawS1377AExact", spec := "lawS1377AExact", plainKeys := false, apart := false }
def LawS1377AExactSaid : Prop := lawS1377AExactRow.holds Yba.pinned (OpenSpec.ofChange lawS1377AExactSpec)

/-- ITS FALSE NEIGHBOUR: 'it returns false'. Refute it at one input. -/
def lawS1377AExactWrong : ChangeSpec := { name := "lawS1377AExact", fn := fun _ => fun
  | [d1, d2, d3, d4, d5, d6, d7] => { results := [.lit (.bool false)], args := [d1, d2, d3, d4, d5, d6, d7] }
  | _ => none }
def LawS1377AExactWrongFalsely : Prop := lawS1377AExactRow.holds Yba.pinned (OpenSpec.ofChange lawS1377AExactWrong)

/-- 'analysis.LawS1377ARoundTrip': WHATEVER THE INPUT: true; the input reads as it did. -/
def lawS1377ARoundTripSpec : ChangeSpec := { name := "lawS1377ARoundTrip", fn := fun _ => fun
  | [d1, d2, d3, d4, d5] => { results := [.lit (.bool true)], args := [d1, d2, d3, d4, d5] }
  | _ => none }
def lawS1377ARoundTripRow : OpenClaim := { program := "ybulkabmm", sum := "64d30fc7e9b40506e3130339839bbac359d701ee8f4a6ecc9b1c7736d2a1777e", func := "example.com/interlace/interlace/internal/analysis.LawS1377ARoundTrip", spec := "lawS1377ARoundTrip", plainKeys := false, apart := false }
def LawS1377ARoundTripSaid : Prop := lawS1377ARoundTripRow.holds Yba.pinned (OpenSpec.ofChange lawS1377ARoundTripSpec)

/-- ITS FALSE NEIGHBOUR: 'it returns false'. Refute it at one input. -/
def lawS1377ARoundTripWrong : ChangeSpec := { name := "lawS1377ARoundTrip", fn := fun _ => fun
  | [d1, d2, d3, d4, d5] => { results := [.lit (.bool false)], args := [d1, d2, d3, d4, d5] }
  | _ => none }
def LawS1377ARoundTripWrongFalsely : Prop := lawS1377ARoundTripRow.holds Yba.pinned (OpenSpec.ofChange lawS1377ARoundTripWrong)

/-- 'analysis.LawS1377CMember': WHATEVER THE INPUT: true; the input reads as it did. -/
def lawS1377CMemberSpec : ChangeSpec := { name := "lawS1377CMember", fn := fun _ => fun
  | [d1, d2, d3, d4] => { results := [.lit (.bool true)], args := [d1, d2, d3, d4] }
  | _ => none }
def lawS1377CMemberRow : OpenClaim := { program := "ybulkabmm", sum := "64d30fc7e9b40506e3130339839bbac359d701ee8f4a6ecc9b1c7736d2a1777e", func := "example.com/interlace/interlace/internal/analysis.LawS1377CMember", spec := "lawS1377CMember", plainKeys := false, apart := false }
def LawS1377CMemberSaid : Prop := lawS1377CMemberRow.holds Yba.pinned (OpenSpec.ofChange lawS1377CMemberSpec)

/-- ITS FALSE NEIGHBOUR: 'it returns false'. Refute it at one input. -/
def lawS1377CMemberWrong : ChangeSpec := { name := "lawS1377CMember", fn := fun _ => fun
  | [d1, d2, d3, d4] => { results := [.lit (.bool false)], args := [d1, d2, d3, d4] }
  | _ => none }
def LawS1377CMemberWrongFalsely : Prop := lawS1377CMemberRow.holds Yba.pinned (OpenSpec.ofChange lawS1377CMemberWrong)

/-- 'analysis.LawS1377CKeys': WHATEVER THE INPUT: true; the input reads as it did. -/
def lawS1377CKeysSpec : ChangeSpec := { name := "lawS1377CKeys", fn := fun _ => fun
  | [d1, d2] => { results := [.lit (.bool true)], args := [d1, d2] }
  | _ => none }
def lawS1377CKeysRow : OpenClaim := { program := "ybulkabmm", sum := "64d30fc7e9b40506e3130339839bbac359d701ee8f4a6ecc9b1c7736d2a1777e", func := "example.com/interlace/interlace/internal/analysis.LawS1377CKeys", spec := "lawS1377CKeys", plainKeys := false, apart := false }
def LawS1377CKeysSaid : Prop := lawS1377CKeysRow.holds Yba.pinned (OpenSpec.ofChange lawS1377CKeysSpec)

/-- ITS FALSE NEIGHBOUR: 'it returns false'. Refute it at one input. -/
def lawS1377CKeysWrong : ChangeSpec := { name := "lawS1377CKeys", fn := fun _ => fun
  | [d1, d2] => { results := [.lit (.bool false)], args := [d1, d2] }
  | _ => none }
def LawS1377CKeysWrongFalsely : Prop := lawS1377CKeysRow.holds Yba.pinned (OpenSpec.ofChange lawS1377CKeysWrong)

end Rows
end Go.Proofs.Ybulkabmm
