/-
  No cell of these rows narrows 'for every input' (looked for: loops, veiled, ifaces, maps, wideKeys, modest, calm, conditions, laid).
  DERIVED. THE GIVEN ROWS OF THIS SEAT. 3 by the template 'for every input the law returns true; each argument reads behind the call as it read before'; 0 by the template 'total and deterministic' (their statements: YbulkbwfuTotals.lean).
  GIVEN WITH THE SEED: the statements are not yours to turn. If you find one false, say at which input.
  Laid BY PROGRAM, IN A SANDBOX (cutbox-rows.mjs): the forced cells as the released guide's own fill.sh prints them over the translation 5f88234aa5e829d2… (all of the seat's roots in one cut). By AI agents, Wed Nov 11 2026. No macro, syntax, notation, axiom, sorry.
-/
import Derived.Test.YbulkbwfuChecked
import GoSem.Claim
import GoSem.ClaimJoined
import GoSem.ClaimMapViews
import Derived.JoinedTies
import Derived.KernelRfl
namespace Go.Proofs.Ybulkbwfu
/- THE CELL 'sum', in the pinned program and in every row, IS THE sha256 OF THE DUMP (.gsa) THAT YbulkbwfuProg.lean LOADS. Nothing in Lean hashes anything: it is a label: what it is worth is what the hold of that sum in a sandbox is worth. -/
noncomputable def Yba.pinned : Pinned := { name := "ybulkbwfu", sum := "5f88234aa5e829d2fbd3c6ffd6638cd0573303f11518ef64ec11b2367bf2ca78", checked := Yba.checked }
namespace Rows
def none {H : Type} : Left H := { results := [], args := [] }

/-- 'braider.LawS3634AModel': WHATEVER THE INPUT: true; the input reads as it did. -/
def lawS3634AModelSpec : ChangeSpec := { name := "lawS3634AModel", fn := fun _ => fun
  | [d1, d2] => { results := [.lit (.bool true)], args := [d1, d2] }
  | _ => none }
def lawS3634AModelRow : OpenClaim := { program := "ybulkbwfu", sum := "5f88234aa5e829d2fbd3c6ffd6638cd0573303f11518ef64ec11b2367bf2ca78", func := "example.com/braider/braider.LawS3634AModel", spec := "lawS3634AModel", apart := false }
def LawS3634AModelSaid : Prop := lawS3634AModelRow.holds Yba.pinned (OpenSpec.ofChange lawS3634AModelSpec)

/-- ITS FALSE NEIGHBOUR: 'it returns false'. Refute it at one input. -/
def lawS3634AModelWrong : ChangeSpec := { name := "lawS3634AModel", fn := fun _ => fun
  | [d1, d2] => { results := [.lit (.bool false)], args := [d1, d2] }
  | _ => none }
def LawS3634AModelWrongFalsely : Prop := lawS3634AModelRow.holds Yba.pinned (OpenSpec.ofChange lawS3634AModelWrong)

/-- 'braider.LawS3634BGrow': WHATEVER THE INPUT: true; the input reads as it did. -/
def lawS3634BGrowSpec : ChangeSpec := { name := "lawS3634BGrow", fn := fun _ => fun
  | [d1, d2, d3, d4] => { results := [.lit (.bool true)], args := [d1, d2, d3, d4] }
  | _ => none }
def lawS3634BGrowRow : OpenClaim := { program := "ybulkbwfu", sum := "5f88234aa5e829d2fbd3c6ffd6638cd0573303f11518ef64ec11b2367bf2ca78", func := "example.com/braider/braider.LawS3634BGrow", spec := "lawS3634BGrow", apart := false }
def LawS3634BGrowSaid : Prop := lawS3634BGrowRow.holds Yba.pinned (OpenSpec.ofChange lawS3634BGrowSpec)

/-- ITS FALSE NEIGHBOUR: 'it returns false'. Refute it at one input. -/
def lawS3634BGrowWrong : ChangeSpec := { name := "lawS3634BGrow", fn := fun _ => fun
  | [d1, d2, d3, d4] => { results := [.lit (.bool false)], args := [d1, d2, d3, d4] }
  | _ => none }
def LawS3634BGrowWrongFalsely : Prop := lawS3634BGrowRow.holds Yba.pinned (OpenSpec.ofChange lawS3634BGrowWrong)

/-- 'braider.LawS3634CKeep': WHATEVER THE INPUT: true; the input reads as it did. -/
def lawS3634CKeepSpec : ChangeSpec := { name := "lawS3634CKeep", fn := fun _ => fun
  | [d1, d2, d3, d4, d5] => { results := [.lit (.bool true)], args := [d1, d2, d3, d4, d5] }
  | _ => none }
def lawS3634CKeepRow : OpenClaim := { program := "ybulkbwfu", sum := "5f88234aa5e829d2fbd3c6ffd6638cd0573303f11518ef64ec11b2367bf2ca78", func := "example.com/braider/braider.LawS3634CKeep", spec := "lawS3634CKeep", apart := false }
def LawS3634CKeepSaid : Prop := lawS3634CKeepRow.holds Yba.pinned (OpenSpec.ofChange lawS3634CKeepSpec)

/-- ITS FALSE NEIGHBOUR: 'it returns false'. Refute it at one input. -/
def lawS3634CKeepWrong : ChangeSpec := { name := "lawS3634CKeep", fn := fun _ => fun
  | [d1, d2, d3, d4, d5] => { results := [.lit (.bool false)], args := [d1, d2, d3, d4, d5] }
  | _ => none }
def LawS3634CKeepWrongFalsely : Prop := lawS3634CKeepRow.holds Yba.pinned (OpenSpec.ofChange lawS3634CKeepWrong)

end Rows
end Go.Proofs.Ybulkbwfu
