/-
  No cell of these rows narrows 'for every input' (looked for: loops, veiled, ifaces, maps, wideKeys, modest, calm, conditions, laid).
  DERIVED. THE GIVEN ROWS OF THIS SEAT. 2 by the template 'for every input the law returns true; each argument reads behind the call as it read before'; 0 by the template 'total and deterministic' (their statements: YbulkbwleTotals.lean).
  GIVEN WITH THE SEED: the statements are not yours to turn. If you find one false, say at which input.
  Laid BY PROGRAM, IN A SANDBOX (cutbox-rows.mjs): the forced cells as the released guide's own fill.sh prints them over the translation 127b653a5c7619f0… (all of the seat's roots in one cut). By AI agents, Wed Nov 11 2026. No macro, syntax, notation, axiom, sorry.
-/
import Derived.Test.YbulkbwleChecked
import GoSem.Claim
import GoSem.ClaimJoined
import GoSem.ClaimMapViews
import Derived.JoinedTies
import Derived.KernelRfl
namespace Go.Proofs.Ybulkbwle
/- THE CELL 'sum', in the pinned program and in every row, IS THE sha256 OF THE DUMP (.gsa) THAT YbulkbwleProg.lean LOADS. Nothing in Lean hashes anything: it is a label: what it is worth is what the hold of that sum in a sandbox is worth. -/
noncomputable def Yba.pinned : Pinned := { name := "ybulkbwle", sum := "127b653a5c7619f04a3744494b613b8a28972d919f1e50258552c1d7c4b64179", checked := Yba.checked }
namespace Rows
def none {H : Type} : Left H := { results := [], args := [] }

/-- 'countersign.LawS3644ARoundTrip': WHATEVER THE INPUT: true; the input reads as it did. -/
def lawS3644ARoundTripSpec : ChangeSpec := { name := "lawS3644ARoundTrip", fn := fun _ => fun
  | [d1, d2] => { results := [.lit (.bool true)], args := [d1, d2] }
  | _ => none }
def lawS3644ARoundTripRow : OpenClaim := { program := "ybulkbwle", sum := "127b653a5c7619f04a3744494b613b8a28972d919f1e50258552c1d7c4b64179", func := "example.com/countersign/countersign.LawS3644ARoundTrip", spec := "lawS3644ARoundTrip", apart := false }
def LawS3644ARoundTripSaid : Prop := lawS3644ARoundTripRow.holds Yba.pinned (OpenSpec.ofChange lawS3644ARoundTripSpec)

/-- ITS FALSE NEIGHBOUR: 'it returns false'. Refute it at one input. -/
def lawS3644ARoundTripWrong : ChangeSpec := { name := "lawS3644ARoundTrip", fn := fun _ => fun
  | [d1, d2] => { results := [.lit (.bool false)], args := [d1, d2] }
  | _ => none }
def LawS3644ARoundTripWrongFalsely : Prop := lawS3644ARoundTripRow.holds Yba.pinned (OpenSpec.ofChange lawS3644ARoundTripWrong)

/-- 'countersign.LawS3644AConcat': WHATEVER THE INPUT: true; the input reads as it did. -/
def lawS3644AConcatSpec : ChangeSpec := { name := "lawS3644AConcat", fn := fun _ => fun
  | [d1, d2] => { results := [.lit (.bool true)], args := [d1, d2] }
  | _ => none }
def lawS3644AConcatRow : OpenClaim := { program := "ybulkbwle", sum := "127b653a5c7619f04a3744494b613b8a28972d919f1e50258552c1d7c4b64179", func := "example.com/countersign/countersign.LawS3644AConcat", spec := "lawS3644AConcat", apart := false }
def LawS3644AConcatSaid : Prop := lawS3644AConcatRow.holds Yba.pinned (OpenSpec.ofChange lawS3644AConcatSpec)

/-- ITS FALSE NEIGHBOUR: 'it returns false'. Refute it at one input. -/
def lawS3644AConcatWrong : ChangeSpec := { name := "lawS3644AConcat", fn := fun _ => fun
  | [d1, d2] => { results := [.lit (.bool false)], args := [d1, d2] }
  | _ => none }
def LawS3644AConcatWrongFalsely : Prop := lawS3644AConcatRow.holds Yba.pinned (OpenSpec.ofChange lawS3644AConcatWrong)

end Rows
end Go.Proofs.Ybulkbwle
