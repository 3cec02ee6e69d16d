/-
  No cell of these rows narrows 'for every input' (looked for: loops, veiled, ifaces, maps, wideKeys, modest, calm, conditions, laid).
  DERIVED. THE GIVEN ROWS OF THIS SEAT. 3 by the template 'for every input the law returns true; each argument reads behind the call as it read before'; 0 by the template 'total and deterministic' (their statements: Qxb6619209aTotals.lean).
  GIVEN WITH THE SEED: the statements are not yours to turn. If you find one false, say at which input.
  Laid BY PROGRAM, IN A SANDBOX (cutbox-rows.mjs): the forced cells as the released guide's own fill.sh prints them over the translation 2a24b116f0c310fa… (all of the seat's roots in one cut). By AI agents, Wed Nov 11 2026. No macro, syntax, notation, axiom, sorry.
-/
import Derived.Test.Qxb6619209aChecked
import GoSem.Claim
import GoSem.ClaimJoined
import GoSem.ClaimMapViews
import Derived.JoinedTies
import Derived.KernelRfl
namespace Go.Proofs.Qxb6619209a
/- THE CELL 'sum', in the pinned program and in every row, IS THE sha256 OF THE DUMP (.gsa) THAT Qxb6619209aProg.lean LOADS. Nothing in Lean hashes anything: it is a label: what it is worth is what the hold of that sum in a sandbox is worth. -/
noncomputable def Try.pinned : Pinned := { name := "qxb6619209a", sum := "2a24b116f0c310fa91ae2ba4c4f8243057a4977f3157566eac7b168a2814d8d9", checked := Try.checked }
namespace Rows
def none {H : Type} : Left H := { results := [], args := [] }

/-- 'zzlaws_srcinfo_b1.FnCutAssignmentRoundTrip': WHATEVER THE INPUT: true; the input reads as it did. -/
def fnCutAssignmentRoundTripSpec : ChangeSpec := { name := "fnCutAssignmentRoundTrip", fn := fun _ => fun
  | [d1, d2] => { results := [.lit (.bool true)], args := [d1, d2] }
  | _ => none }
def fnCutAssignmentRoundTripRow : OpenClaim := { program := "qxb6619209a", sum := "2a24b116f0c310fa91ae2ba4c4f8243057a4977f3157566eac7b168a2814d8d9", func := "example.com/varro/varro/zzlaws_srcinfo_b1.FnCutAssignmentRoundTrip", spec := "fnCutAssignmentRoundTrip", apart := false }
def FnCutAssignmentRoundTripSaid : Prop := fnCutAssignmentRoundTripRow.holds Try.pinned (OpenSpec.ofChange fnCutAssignmentRoundTripSpec)

/-- ITS FALSE NEIGHBOUR: 'it returns false'. Refute it at one input. -/
def fnCutAssignmentRoundTripWrong : ChangeSpec := { name := "fnCutAssignmentRoundTrip", fn := fun _ => fun
  | [d1, d2] => { results := [.lit (.bool false)], args := [d1, d2] }
  | _ => none }
def FnCutAssignmentRoundTripWrongFalsely : Prop := fnCutAssignmentRoundTripRow.holds Try.pinned (OpenSpec.ofChange fnCutAssignmentRoundTripWrong)

/-- 'zzlaws_srcinfo_b1.FnSectionsPartitionLines': WHATEVER THE INPUT: true; the input reads as it did. -/
def fnSectionsPartitionLinesSpec : ChangeSpec := { name := "fnSectionsPartitionLines", fn := fun _ => fun
  | [d1, d2, d3] => { results := [.lit (.bool true)], args := [d1, d2, d3] }
  | _ => none }
def fnSectionsPartitionLinesRow : OpenClaim := { program := "qxb6619209a", sum := "2a24b116f0c310fa91ae2ba4c4f8243057a4977f3157566eac7b168a2814d8d9", func := "example.com/varro/varro/zzlaws_srcinfo_b1.FnSectionsPartitionLines", spec := "fnSectionsPartitionLines", apart := false }
def FnSectionsPartitionLinesSaid : Prop := fnSectionsPartitionLinesRow.holds Try.pinned (OpenSpec.ofChange fnSectionsPartitionLinesSpec)

/-- ITS FALSE NEIGHBOUR: 'it returns false'. Refute it at one input. -/
def fnSectionsPartitionLinesWrong : ChangeSpec := { name := "fnSectionsPartitionLines", fn := fun _ => fun
  | [d1, d2, d3] => { results := [.lit (.bool false)], args := [d1, d2, d3] }
  | _ => none }
def FnSectionsPartitionLinesWrongFalsely : Prop := fnSectionsPartitionLinesRow.holds Try.pinned (OpenSpec.ofChange fnSectionsPartitionLinesWrong)

/-- 'zzlaws_srcinfo_b1.FnSectionsJoinFiles': WHATEVER THE INPUT: true; the input reads as it did. -/
def fnSectionsJoinFilesSpec : ChangeSpec := { name := "fnSectionsJoinFiles", fn := fun _ => fun
  | [d1, d2, d3, d4, d5] => { results := [.lit (.bool true)], args := [d1, d2, d3, d4, d5] }
  | _ => none }
def fnSectionsJoinFilesRow : OpenClaim := { program := "qxb6619209a", sum := "2a24b116f0c310fa91ae2ba4c4f8243057a4977f3157566eac7b168a2814d8d9", func := "example.com/varro/varro/zzlaws_srcinfo_b1.FnSectionsJoinFiles", spec := "fnSectionsJoinFiles", apart := false }
def FnSectionsJoinFilesSaid : Prop := fnSectionsJoinFilesRow.holds Try.pinned (OpenSpec.ofChange fnSectionsJoinFilesSpec)

/-- ITS FALSE NEIGHBOUR: 'it returns false'. Refute it at one input. -/
def fnSectionsJoinFilesWrong : ChangeSpec := { name := "fnSectionsJoinFiles", fn := fun _ => fun
  | [d1, d2, d3, d4, d5] => { results := [.lit (.bool false)], args := [d1, d2, d3, d4, d5] }
  | _ => none }
def FnSectionsJoinFilesWrongFalsely : Prop := fnSectionsJoinFilesRow.holds Try.pinned (OpenSpec.ofChange fnSectionsJoinFilesWrong)

end Rows
end Go.Proofs.Qxb6619209a
