/-
  No cell of these rows narrows 'for every input' (looked for: loops, veiled, ifaces, maps, wideKeys, modest, calm, conditions, laid).
  DERIVED. THE GIVEN ROWS OF THIS SEAT. 5 by the template 'for every input the law returns true; each argument reads behind the call as it read before'; 0 by the template 'total and deterministic' (their statements: YbulkbwfgTotals.lean).
  GIVEN WITH THE SEED: the statements are not yours to turn. If you find one false, say at which input.
  Laid BY PROGRAM, IN A SANDBOX (cutbox-rows.mjs): the forced cells as the released guide's own fill.sh prints them over the translation e636816f94697528… (all of the seat's roots in one cut). By AI agents, Wed Nov 11 2026. No macro, syntax, notation, axiom, sorry.
-/
import Derived.Test.YbulkbwfgChecked
import GoSem.Claim
import GoSem.ClaimJoined
import GoSem.ClaimMapViews
import Derived.JoinedTies
import Derived.KernelRfl
namespace Go.Proofs.Ybulkbwfg
/- THE CELL 'sum', in the pinned program and in every row, IS THE sha256 OF THE DUMP (.gsa) THAT YbulkbwfgProg.lean LOADS. Nothing in Lean hashes anything: it is a label: what it is worth is what the hold of that sum in a sandbox is worth. -/
noncomputable def Yba.pinned : Pinned := { name := "ybulkbwfg", sum := "e636816f946975285b7fcaf9f67b6163cac9596fdf587615e2b1ff7e249e9939", checked := Yba.checked }
namespace Rows
def none {H : Type} : Left H := { results := [], args := [] }

/-- 'health.LawS3633AScript': WHATEVER THE INPUT: true; the input reads as it did. -/
def lawS3633AScriptSpec : ChangeSpec := { name := "lawS3633AScript", fn := fun _ => fun
  | [d] => { results := [.lit (.bool true)], args := [d] }
  | _ => none }
def lawS3633AScriptRow : OpenClaim := { program := "ybulkbwfg", sum := "e636816f946975285b7fcaf9f67b6163cac9596fdf587615e2b1ff7e249e9939", func := "example.com/wardloom/wardloom/health.LawS3633AScript", spec := "lawS3633AScript", plainKeys := false, apart := false }
def LawS3633AScriptSaid : Prop := lawS3633AScriptRow.holds Yba.pinned (OpenSpec.ofChange lawS3633AScriptSpec)

/-- ITS FALSE NEIGHBOUR: 'it returns false'. Refute it at one input. -/
def lawS3633AScriptWrong : ChangeSpec := { name := "lawS3633AScript", fn := fun _ => fun
  | [d] => { results := [.lit (.bool false)], args := [d] }
  | _ => none }
def LawS3633AScriptWrongFalsely : Prop := lawS3633AScriptRow.holds Yba.pinned (OpenSpec.ofChange lawS3633AScriptWrong)

/-- 'placement.LawS3633BMaxDiff': WHATEVER THE INPUT: true; the input reads as it did. -/
def lawS3633BMaxDiffSpec : ChangeSpec := { name := "lawS3633BMaxDiff", fn := fun _ => fun
  | [d1, d2, d3] => { results := [.lit (.bool true)], args := [d1, d2, d3] }
  | _ => none }
def lawS3633BMaxDiffRow : OpenClaim := { program := "ybulkbwfg", sum := "e636816f946975285b7fcaf9f67b6163cac9596fdf587615e2b1ff7e249e9939", func := "example.com/wardloom/wardloom/placement.LawS3633BMaxDiff", spec := "lawS3633BMaxDiff", plainKeys := false, apart := false }
def LawS3633BMaxDiffSaid : Prop := lawS3633BMaxDiffRow.holds Yba.pinned (OpenSpec.ofChange lawS3633BMaxDiffSpec)

/-- ITS FALSE NEIGHBOUR: 'it returns false'. Refute it at one input. -/
def lawS3633BMaxDiffWrong : ChangeSpec := { name := "lawS3633BMaxDiff", fn := fun _ => fun
  | [d1, d2, d3] => { results := [.lit (.bool false)], args := [d1, d2, d3] }
  | _ => none }
def LawS3633BMaxDiffWrongFalsely : Prop := lawS3633BMaxDiffRow.holds Yba.pinned (OpenSpec.ofChange lawS3633BMaxDiffWrong)

/-- 'placement.LawS3633BQuorum': WHATEVER THE INPUT: true; the input reads as it did. -/
def lawS3633BQuorumSpec : ChangeSpec := { name := "lawS3633BQuorum", fn := fun _ => fun
  | [d1, d2, d3] => { results := [.lit (.bool true)], args := [d1, d2, d3] }
  | _ => none }
def lawS3633BQuorumRow : OpenClaim := { program := "ybulkbwfg", sum := "e636816f946975285b7fcaf9f67b6163cac9596fdf587615e2b1ff7e249e9939", func := "example.com/wardloom/wardloom/placement.LawS3633BQuorum", spec := "lawS3633BQuorum", plainKeys := false, apart := false }
def LawS3633BQuorumSaid : Prop := lawS3633BQuorumRow.holds Yba.pinned (OpenSpec.ofChange lawS3633BQuorumSpec)

/-- ITS FALSE NEIGHBOUR: 'it returns false'. Refute it at one input. -/
def lawS3633BQuorumWrong : ChangeSpec := { name := "lawS3633BQuorum", fn := fun _ => fun
  | [d1, d2, d3] => { results := [.lit (.bool false)], args := [d1, d2, d3] }
  | _ => none }
def LawS3633BQuorumWrongFalsely : Prop := lawS3633BQuorumRow.holds Yba.pinned (OpenSpec.ofChange lawS3633BQuorumWrong)

/-- 'flow.LawS3633CShape': WHATEVER THE INPUT: true; the input reads as it did. -/
def lawS3633CShapeSpec : ChangeSpec := { name := "lawS3633CShape", fn := fun _ => fun
  | [d1, d2] => { results := [.lit (.bool true)], args := [d1, d2] }
  | _ => none }
def lawS3633CShapeRow : OpenClaim := { program := "ybulkbwfg", sum := "e636816f946975285b7fcaf9f67b6163cac9596fdf587615e2b1ff7e249e9939", func := "example.com/wardloom/wardloom/internal/flow.LawS3633CShape", spec := "lawS3633CShape", plainKeys := false, apart := false }
def LawS3633CShapeSaid : Prop := lawS3633CShapeRow.holds Yba.pinned (OpenSpec.ofChange lawS3633CShapeSpec)

/-- ITS FALSE NEIGHBOUR: 'it returns false'. Refute it at one input. -/
def lawS3633CShapeWrong : ChangeSpec := { name := "lawS3633CShape", fn := fun _ => fun
  | [d1, d2] => { results := [.lit (.bool false)], args := [d1, d2] }
  | _ => none }
def LawS3633CShapeWrongFalsely : Prop := lawS3633CShapeRow.holds Yba.pinned (OpenSpec.ofChange lawS3633CShapeWrong)

/-- 'flow.LawS3633CFresh': WHATEVER THE INPUT: true; the input reads as it did. -/
def lawS3633CFreshSpec : ChangeSpec := { name := "lawS3633CFresh", fn := fun _ => fun
  | [d] => { results := [.lit (.bool true)], args := [d] }
  | _ => none }
def lawS3633CFreshRow : OpenClaim := { program := "ybulkbwfg", sum := "e636816f946975285b7fcaf9f67b6163cac9596fdf587615e2b1ff7e249e9939", func := "example.com/wardloom/wardloom/internal/flow.LawS3633CFresh", spec := "lawS3633CFresh", plainKeys := false, apart := false }
def LawS3633CFreshSaid : Prop := lawS3633CFreshRow.holds Yba.pinned (OpenSpec.ofChange lawS3633CFreshSpec)

/-- ITS FALSE NEIGHBOUR: 'it returns false'. Refute it at one input. -/
def lawS3633CFreshWrong : ChangeSpec := { name := "lawS3633CFresh", fn := fun _ => fun
  | [d] => { results := [.lit (.bool false)], args := [d] }
  | _ => none }
def LawS3633CFreshWrongFalsely : Prop := lawS3633CFreshRow.holds Yba.pinned (OpenSpec.ofChange lawS3633CFreshWrong)

end Rows
end Go.Proofs.Ybulkbwfg
