/-
  No cell of these rows narrows 'for every input' (looked for: loops, veiled, ifaces, maps, wideKeys, modest, calm, conditions, laid).
  DERIVED. THE GIVEN ROWS OF THIS SEAT. 2 by the template 'for every input the law returns true; each argument reads behind the call as it read before'; 0 by the template 'total and deterministic' (their statements: YbulkbwmuTotals.lean).
  GIVEN WITH THE SEED: the statements are not yours to turn. If you find one false, say at which input.
  Laid BY PROGRAM, IN A SANDBOX (cutbox-rows.mjs): the forced cells as the released guide's own fill.sh prints them over the translation 5c47a94f95730b08… (all of the seat's roots in one cut). By AI agents, Wed Nov 11 2026. No macro, syntax, notation, axiom, sorry.
-/
import Derived.Test.YbulkbwmuChecked
import GoSem.Claim
import GoSem.ClaimJoined
import GoSem.ClaimMapViews
import Derived.JoinedTies
import Derived.KernelRfl
namespace Go.Proofs.Ybulkbwmu
/- THE CELL 'sum', in the pinned program and in every row, IS THE sha256 OF THE DUMP (.gsa) THAT YbulkbwmuProg.lean LOADS. Nothing in Lean hashes anything: it is a label: what it is worth is what the hold of that sum in a sandbox is worth. -/
noncomputable def Yba.pinned : Pinned := { name := "ybulkbwmu", sum := "5c47a94f95730b0891c93f3239bc77ef8aeb7f95e857741d6186a870759b4755", checked := Yba.checked }
namespace Rows
def none {H : Type} : Left H := { results := [], args := [] }

/-- 'policy.LawS3647BModel': WHATEVER THE INPUT: true; the input reads as it did. -/
def lawS3647BModelSpec : ChangeSpec := { name := "lawS3647BModel", fn := fun _ => fun
  | [d1, d2, d3] => { results := [.lit (.bool true)], args := [d1, d2, d3] }
  | _ => none }
def lawS3647BModelRow : OpenClaim := { program := "ybulkbwmu", sum := "5c47a94f95730b0891c93f3239bc77ef8aeb7f95e857741d6186a870759b4755", func := "example.com/encond/encond/policy.LawS3647BModel", spec := "lawS3647BModel", named := ["encoding/binary.BigEndian"], apart := false }
def LawS3647BModelSaid : Prop := lawS3647BModelRow.holds Yba.pinned (OpenSpec.ofChange lawS3647BModelSpec)

/-- ITS FALSE NEIGHBOUR: 'it returns false'. Refute it at one input. -/
def lawS3647BModelWrong : ChangeSpec := { name := "lawS3647BModel", fn := fun _ => fun
  | [d1, d2, d3] => { results := [.lit (.bool false)], args := [d1, d2, d3] }
  | _ => none }
def LawS3647BModelWrongFalsely : Prop := lawS3647BModelRow.holds Yba.pinned (OpenSpec.ofChange lawS3647BModelWrong)

/-- 'policy.LawS3647BBuilt': WHATEVER THE INPUT: true; the input reads as it did. -/
def lawS3647BBuiltSpec : ChangeSpec := { name := "lawS3647BBuilt", fn := fun _ => fun
  | [d1, d2, d3, d4] => { results := [.lit (.bool true)], args := [d1, d2, d3, d4] }
  | _ => none }
def lawS3647BBuiltRow : OpenClaim := { program := "ybulkbwmu", sum := "5c47a94f95730b0891c93f3239bc77ef8aeb7f95e857741d6186a870759b4755", func := "example.com/encond/encond/policy.LawS3647BBuilt", spec := "lawS3647BBuilt", named := ["encoding/binary.BigEndian"], apart := false }
def LawS3647BBuiltSaid : Prop := lawS3647BBuiltRow.holds Yba.pinned (OpenSpec.ofChange lawS3647BBuiltSpec)

/-- ITS FALSE NEIGHBOUR: 'it returns false'. Refute it at one input. -/
def lawS3647BBuiltWrong : ChangeSpec := { name := "lawS3647BBuilt", fn := fun _ => fun
  | [d1, d2, d3, d4] => { results := [.lit (.bool false)], args := [d1, d2, d3, d4] }
  | _ => none }
def LawS3647BBuiltWrongFalsely : Prop := lawS3647BBuiltRow.holds Yba.pinned (OpenSpec.ofChange lawS3647BBuiltWrong)

end Rows
end Go.Proofs.Ybulkbwmu
