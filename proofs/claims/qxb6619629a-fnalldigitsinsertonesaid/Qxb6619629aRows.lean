/-
  No cell of these rows narrows 'for every input' (looked for: loops, veiled, ifaces, maps, wideKeys, modest, calm, conditions, laid).
  DERIVED. THE GIVEN ROWS OF THIS SEAT. 3 by the template 'for every input the law returns true; each argument reads behind the call as it read before'; 0 by the template 'total and deterministic' (their statements: Qxb6619629aTotals.lean).
  GIVEN WITH THE SEED: the statements are not yours to turn. If you find one false, say at which input.
  Laid BY PROGRAM, IN A SANDBOX (cutbox-rows.mjs): the forced cells as the released guide's own fill.sh prints them over the translation 1821857650180227… (all of the seat's roots in one cut). By AI agents, Wed Nov 11 2026. No macro, syntax, notation, axiom, sorry.
-/
import Derived.Test.Qxb6619629aChecked
import GoSem.Claim
import GoSem.ClaimJoined
import GoSem.ClaimMapViews
import Derived.JoinedTies
import Derived.KernelRfl
namespace Go.Proofs.Qxb6619629a
/- THE CELL 'sum', in the pinned program and in every row, IS THE sha256 OF THE DUMP (.gsa) THAT Qxb6619629aProg.lean LOADS. Nothing in Lean hashes anything: it is a label: what it is worth is what the hold of that sum in a sandbox is worth. -/
noncomputable def Try.pinned : Pinned := { name := "qxb6619629a", sum := "182185765018022731b276dfb17edc34b258051f224c6216c32cee9b29c8bd0b", checked := Try.checked }
namespace Rows
def none {H : Type} : Left H := { results := [], args := [] }

/-- 'zzlaws_internal_decimal_b1.FnDivOutExactQuotient': WHATEVER THE INPUT: true; the input reads as it did. -/
def fnDivOutExactQuotientSpec : ChangeSpec := { name := "fnDivOutExactQuotient", fn := fun _ => fun
  | [d1, d2, d3] => { results := [.lit (.bool true)], args := [d1, d2, d3] }
  | _ => none }
def fnDivOutExactQuotientRow : OpenClaim := { program := "qxb6619629a", sum := "182185765018022731b276dfb17edc34b258051f224c6216c32cee9b29c8bd0b", func := "example.com/tidemark/tidemark/zzlaws_internal_decimal_b1.FnDivOutExactQuotient", spec := "fnDivOutExactQuotient", apart := false }
def FnDivOutExactQuotientSaid : Prop := fnDivOutExactQuotientRow.holds Try.pinned (OpenSpec.ofChange fnDivOutExactQuotientSpec)

/-- ITS FALSE NEIGHBOUR: 'it returns false'. Refute it at one input. -/
def fnDivOutExactQuotientWrong : ChangeSpec := { name := "fnDivOutExactQuotient", fn := fun _ => fun
  | [d1, d2, d3] => { results := [.lit (.bool false)], args := [d1, d2, d3] }
  | _ => none }
def FnDivOutExactQuotientWrongFalsely : Prop := fnDivOutExactQuotientRow.holds Try.pinned (OpenSpec.ofChange fnDivOutExactQuotientWrong)

/-- 'zzlaws_internal_decimal_b1.FnDivOutInTwoSteps': WHATEVER THE INPUT: true; the input reads as it did. -/
def fnDivOutInTwoStepsSpec : ChangeSpec := { name := "fnDivOutInTwoSteps", fn := fun _ => fun
  | [d1, d2, d3, d4] => { results := [.lit (.bool true)], args := [d1, d2, d3, d4] }
  | _ => none }
def fnDivOutInTwoStepsRow : OpenClaim := { program := "qxb6619629a", sum := "182185765018022731b276dfb17edc34b258051f224c6216c32cee9b29c8bd0b", func := "example.com/tidemark/tidemark/zzlaws_internal_decimal_b1.FnDivOutInTwoSteps", spec := "fnDivOutInTwoSteps", apart := false }
def FnDivOutInTwoStepsSaid : Prop := fnDivOutInTwoStepsRow.holds Try.pinned (OpenSpec.ofChange fnDivOutInTwoStepsSpec)

/-- ITS FALSE NEIGHBOUR: 'it returns false'. Refute it at one input. -/
def fnDivOutInTwoStepsWrong : ChangeSpec := { name := "fnDivOutInTwoSteps", fn := fun _ => fun
  | [d1, d2, d3, d4] => { results := [.lit (.bool false)], args := [d1, d2, d3, d4] }
  | _ => none }
def FnDivOutInTwoStepsWrongFalsely : Prop := fnDivOutInTwoStepsRow.holds Try.pinned (OpenSpec.ofChange fnDivOutInTwoStepsWrong)

/-- 'zzlaws_internal_decimal_b1.FnAllDigitsInsertOne': WHATEVER THE INPUT: true; the input reads as it did. -/
def fnAllDigitsInsertOneSpec : ChangeSpec := { name := "fnAllDigitsInsertOne", fn := fun _ => fun
  | [d1, d2, d3] => { results := [.lit (.bool true)], args := [d1, d2, d3] }
  | _ => none }
def fnAllDigitsInsertOneRow : OpenClaim := { program := "qxb6619629a", sum := "182185765018022731b276dfb17edc34b258051f224c6216c32cee9b29c8bd0b", func := "example.com/tidemark/tidemark/zzlaws_internal_decimal_b1.FnAllDigitsInsertOne", spec := "fnAllDigitsInsertOne", apart := false }
def FnAllDigitsInsertOneSaid : Prop := fnAllDigitsInsertOneRow.holds Try.pinned (OpenSpec.ofChange fnAllDigitsInsertOneSpec)

/-- ITS FALSE NEIGHBOUR: 'it returns false'. Refute it at one input. -/
def fnAllDigitsInsertOneWrong : ChangeSpec := { name := "fnAllDigitsInsertOne", fn := fun _ => fun
  | [d1, d2, d3] => { results := [.lit (.bool false)], args := [d1, d2, d3] }
  | _ => none }
def FnAllDigitsInsertOneWrongFalsely : Prop := fnAllDigitsInsertOneRow.holds Try.pinned (OpenSpec.ofChange fnAllDigitsInsertOneWrong)

end Rows
end Go.Proofs.Qxb6619629a
