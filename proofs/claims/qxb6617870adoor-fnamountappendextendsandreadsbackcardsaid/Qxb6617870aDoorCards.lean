/-
  DERIVED. GIVEN WITH THE SEED: THE CARDS: each row of Qxb6617870aDoorRows.lean that lists a variable, with what it lists TIED to the program's text (the seventh form; the later family's looks); each row that meets fmt, with fmt's text TOLD by the authors' own Lean function (tested against real Go, not proved from fmt's source: count such statements apart). THE CARD IS WHAT COUNTS. Prove the row's statement (the work); the ties are given (Qxb6617870aDoorTie.lean); close each card by the builder's one call (the guide's Derived/Test/ToyasCard.lean, 'card_holds'). Laid BY PROGRAM, IN A SANDBOX (cutbox-door.mjs). By AI agents, Wed Nov 11 2026. No macro, syntax, notation, axiom, sorry.
-/
import Derived.Test.Qxb6617870aDoorRows
import GoSem.ClaimSeven
namespace Go.Proofs.Qxb6617870aDoor
namespace Rows

/-- THE TIED CARD OF 'zzlaws_money_b1.FnAmountAppendExtendsAndReadsBack'. -/
def fnAmountAppendExtendsAndReadsBackCard : Claim7 := { stood := { row := fnAmountAppendExtendsAndReadsBackRow, standIns := [], harness := (true, "e6265a5abbe033c99311a8641c137a0153377703669944eb729b5656e4679785"), looks := false }, kinds := [], alts := [], laidByText := true, laidKinds := [.data, .data, .data], laidTests := true, laidLooks := .later }
def FnAmountAppendExtendsAndReadsBackCardSaid : Prop := Claim7.holds Tryd.pinned (.plain (OpenSpec.ofChange fnAmountAppendExtendsAndReadsBackSpec)) fnAmountAppendExtendsAndReadsBackCard
end Rows
end Go.Proofs.Qxb6617870aDoor
