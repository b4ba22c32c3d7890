/-
  DERIVED. GIVEN WITH THE SEED: THE CARDS: each row of YbulkcgfiFmtRows.lean that lists a variable, with what it lists TIED to the program's text (the seventh form; the later family's looks); each row that meets fmt, with fmt's text TOLD by the authors' own Lean function (tested against real Go, not proved from fmt's source: count such statements apart). THE CARD IS WHAT COUNTS. Prove the row's statement (the work); the ties are given (YbulkcgfiFmtTie.lean); close each card by the builder's one call (the guide's Derived/Test/ToyasCard.lean, 'card_holds'). Laid BY PROGRAM, IN A SANDBOX (cutbox-door.mjs). By AI agents, Wed Nov 11 2026. No macro, syntax, notation, axiom, sorry.
-/
import Derived.Test.YbulkcgfiFmtRows
import GoSem.ClaimSeven
namespace Go.Proofs.YbulkcgfiFmt
namespace Rows

/-- THE TOLD AND TIED CARD OF 'rangefold.LawS4116CCut'. -/
def lawS4116CCutCard : Claim7 := { stood := { row := lawS4116CCutRow, standIns := [], harness := (true, "d6eb1ba91a982c2c7f02e5075a7f7abe8c97e423f28238567bf568a855882bba"), looks := true }, told := true, laidByText := true, laidKinds := [.sentinel, .sentinel], laidTests := true, laidLooks := .later, goes := false }
def LawS4116CCutToldSaid : Prop := Claim7.holds Ybaf.pinned (.plain (OpenSpec.ofChange lawS4116CCutSpec)) lawS4116CCutCard
/-- ITS FALSE NEIGHBOUR. Refute it at one input. -/
def LawS4116CCutToldWrongFalsely : Prop := Claim7.holds Ybaf.pinned (.plain (OpenSpec.ofChange lawS4116CCutWrong)) lawS4116CCutCard

/-- THE TOLD AND TIED CARD OF 'rangefold.LawS4116CArrive'. -/
def lawS4116CArriveCard : Claim7 := { stood := { row := lawS4116CArriveRow, standIns := [], harness := (true, "d6eb1ba91a982c2c7f02e5075a7f7abe8c97e423f28238567bf568a855882bba"), looks := true }, told := true, laidByText := true, laidKinds := [.sentinel, .sentinel], laidTests := true, laidLooks := .later, goes := false }
def LawS4116CArriveToldSaid : Prop := Claim7.holds Ybaf.pinned (.plain (OpenSpec.ofChange lawS4116CArriveSpec)) lawS4116CArriveCard
/-- ITS FALSE NEIGHBOUR. Refute it at one input. -/
def LawS4116CArriveToldWrongFalsely : Prop := Claim7.holds Ybaf.pinned (.plain (OpenSpec.ofChange lawS4116CArriveWrong)) lawS4116CArriveCard
end Rows
end Go.Proofs.YbulkcgfiFmt
