/-
  NARROWER THAN 'FOR EVERY INPUT', by the rows' own cells (each row's printed sentence says how): LawS4119CChains: laid.
  DERIVED. THE GIVEN ROWS OF THIS SEAT. 1 by the template 'for every input the law returns true; each argument reads behind the call as it read before'; 0 by the template 'total and deterministic' (their statements: YbulkcggyDoorTotals.lean).
  GIVEN WITH THE SEED: the statements are not yours to turn. If you find one false, say at which input.
  Laid BY PROGRAM, IN A SANDBOX (cutbox-rows.mjs): the forced cells as the released guide's own fill.sh prints them over the translation 84b0a0605c1525ea… (all of the seat's roots in one cut). By AI agents, Wed Nov 11 2026. No macro, syntax, notation, axiom, sorry.
-/
import Derived.Test.YbulkcggyDoorChecked
import GoSem.Claim
import GoSem.ClaimJoined
import GoSem.ClaimMapViews
import Derived.JoinedTies
import Derived.KernelRfl
namespace Go.Proofs.YbulkcggyDoor
/- THE CELL 'sum', in the pinned program and in every row, IS THE sha256 OF THE DUMP (.gsa) THAT YbulkcggyDoorProg.lean LOADS. Nothing in Lean hashes anything: it is a label: what it is worth is what the hold of that sum in a sandbox is worth. -/
noncomputable def Ybad.pinned : Pinned := { name := "ybulkcggydoor", sum := "84b0a0605c1525eaed57aa1bc7f639d7c5143b3a746ba8a3bf74ae33e1cd0b23", checked := Ybad.checked }
namespace Rows
def none {H : Type} : Left H := { results := [], args := [] }

/- WHAT THE LISTED PACKAGE-LEVEL VARIABLES READ AS WHEN THE CALL BEGINS. Each datum BY PROGRAM (the guide's laid-datum.mjs) off the statement by which the dump's own 'gosem.cut.vars' lays the variable. In a bare row this is a premise. The card (YbulkcggyDoorCards.lean) ties it to the program's text. -/
def laid_time_utcLoc {H : Type} : DataW H := .agg [.lit (.string [85, 84, 67]), .nil, .nil, .lit (.string []), .lit (.int .i64 0), .lit (.int .i64 0), .nil]

/-- 'quorumprice.LawS4119CChains': WHATEVER THE INPUT: true; the input reads as it did. -/
def lawS4119CChainsSpec : ChangeSpec := { name := "lawS4119CChains", fn := fun _ => fun
  | [d1, d2] => { results := [.lit (.bool true)], args := [d1, d2] }
  | _ => none }
def lawS4119CChainsRow : OpenClaim := { program := "ybulkcggydoor", sum := "84b0a0605c1525eaed57aa1bc7f639d7c5143b3a746ba8a3bf74ae33e1cd0b23", func := "example.com/quorumprice/quorumprice.LawS4119CChains", spec := "lawS4119CChains", unfollowed := true, recurses := true, named := ["time.utcLoc"], plainKeys := false, apart := false, laid := [("time.utcLoc", laid_time_utcLoc)] }
def LawS4119CChainsSaid : Prop := lawS4119CChainsRow.holds Ybad.pinned (OpenSpec.ofChange lawS4119CChainsSpec)

/-- ITS FALSE NEIGHBOUR: 'it returns false'. Refute it at one input. -/
def lawS4119CChainsWrong : ChangeSpec := { name := "lawS4119CChains", fn := fun _ => fun
  | [d1, d2] => { results := [.lit (.bool false)], args := [d1, d2] }
  | _ => none }
def LawS4119CChainsWrongFalsely : Prop := lawS4119CChainsRow.holds Ybad.pinned (OpenSpec.ofChange lawS4119CChainsWrong)

end Rows
end Go.Proofs.YbulkcggyDoor
