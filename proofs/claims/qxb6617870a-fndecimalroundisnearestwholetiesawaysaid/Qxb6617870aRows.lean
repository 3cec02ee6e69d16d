/-
  No cell of these rows narrows 'for every input' (looked for: loops, veiled, ifaces, maps, wideKeys, modest, calm, conditions, laid).
  DERIVED. THE GIVEN ROWS OF THIS SEAT. 1 by the template 'for every input the law returns true; each argument reads behind the call as it read before'; 0 by the template 'total and deterministic' (their statements: Qxb6617870aTotals.lean).
  GIVEN WITH THE SEED: the statements are not yours to turn. If you find one false, say at which input.
  Laid BY PROGRAM, IN A SANDBOX (cutbox-rows.mjs): the forced cells as the released guide's own fill.sh prints them over the translation 22929732fbf094b9… (all of the seat's roots in one cut). By AI agents, Wed Nov 11 2026. No macro, syntax, notation, axiom, sorry.
-/
import Derived.Test.Qxb6617870aChecked
import GoSem.Claim
import GoSem.ClaimJoined
import GoSem.ClaimMapViews
import Derived.JoinedTies
import Derived.KernelRfl
namespace Go.Proofs.Qxb6617870a
/- THE CELL 'sum', in the pinned program and in every row, IS THE sha256 OF THE DUMP (.gsa) THAT Qxb6617870aProg.lean LOADS. Nothing in Lean hashes anything: it is a label: what it is worth is what the hold of that sum in a sandbox is worth. -/
noncomputable def Try.pinned : Pinned := { name := "qxb6617870a", sum := "22929732fbf094b98614cb398b6432b1215a1e5bf4844b46109914a863fe7733", checked := Try.checked }
namespace Rows
def none {H : Type} : Left H := { results := [], args := [] }

/-- 'zzlaws_money_b1.FnDecimalRoundIsNearestWholeTiesAway': WHATEVER THE INPUT: true; the input reads as it did. -/
def fnDecimalRoundIsNearestWholeTiesAwaySpec : ChangeSpec := { name := "fnDecimalRoundIsNearestWholeTiesAway", fn := fun _ => fun
  | [d] => { results := [.lit (.bool true)], args := [d] }
  | _ => none }
def fnDecimalRoundIsNearestWholeTiesAwayRow : OpenClaim := { program := "qxb6617870a", sum := "22929732fbf094b98614cb398b6432b1215a1e5bf4844b46109914a863fe7733", func := "example.com/ledgerkeel/ledgerkeel/zzlaws_money_b1.FnDecimalRoundIsNearestWholeTiesAway", spec := "fnDecimalRoundIsNearestWholeTiesAway", apart := false }
def FnDecimalRoundIsNearestWholeTiesAwaySaid : Prop := fnDecimalRoundIsNearestWholeTiesAwayRow.holds Try.pinned (OpenSpec.ofChange fnDecimalRoundIsNearestWholeTiesAwaySpec)

/-- ITS FALSE NEIGHBOUR: 'it returns false'. Refute it at one input. -/
def fnDecimalRoundIsNearestWholeTiesAwayWrong : ChangeSpec := { name := "fnDecimalRoundIsNearestWholeTiesAway", fn := fun _ => fun
  | [d] => { results := [.lit (.bool false)], args := [d] }
  | _ => none }
def FnDecimalRoundIsNearestWholeTiesAwayWrongFalsely : Prop := fnDecimalRoundIsNearestWholeTiesAwayRow.holds Try.pinned (OpenSpec.ofChange fnDecimalRoundIsNearestWholeTiesAwayWrong)

end Rows
end Go.Proofs.Qxb6617870a
