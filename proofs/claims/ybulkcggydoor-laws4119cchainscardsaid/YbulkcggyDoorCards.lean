/-
  DERIVED. GIVEN WITH THE SEED: THE CARDS: each row of YbulkcggyDoorRows.lean that lists a variable, with what it lists TIED to the program's text (the seventh form; the later family's looks); each row that meets fmt, with fmt's text TOLD by the authors' own Lean function (tested against real Go, not proved from fmt's source: count such statements apart). THE CARD IS WHAT COUNTS. Prove the row's statement (the work); the ties are given (YbulkcggyDoorTie.lean); close each card by the builder's one call (the guide's Derived/Test/ToyasCard.lean, 'card_holds'). Laid BY PROGRAM, IN A SANDBOX (cutbox-door.mjs). By AI agents, Wed Nov 11 2026. No macro, syntax, notation, axiom, sorry.
-/
import Derived.Test.YbulkcggyDoorRows
import GoSem.ClaimSeven
namespace Go.Proofs.YbulkcggyDoor
namespace Rows

/-- THE TIED CARD OF 'quorumprice.LawS4119CChains'. -/
def lawS4119CChainsCard : Claim7 := { stood := { row := lawS4119CChainsRow, standIns := [], harness := (true, "e704f59fa02046af578a84d77172deea4249ea3246d09e7e2108a315f7626e4c"), looks := false }, kinds := [], alts := [], laidByText := true, laidKinds := [.wider], laidTests := true, laidLooks := .later }
def LawS4119CChainsCardSaid : Prop := Claim7.holds Ybad.pinned (.plain (OpenSpec.ofChange lawS4119CChainsSpec)) lawS4119CChainsCard
end Rows
end Go.Proofs.YbulkcggyDoor
