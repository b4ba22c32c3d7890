/-
  No cell of these rows narrows 'for every input' (looked for: loops, veiled, ifaces, maps, wideKeys, modest, calm, conditions, laid).
  DERIVED. THE GIVEN ROWS OF THIS SEAT. 2 by the template 'for every input the law returns true; each argument reads behind the call as it read before'; 0 by the template 'total and deterministic' (their statements: YbulkcgegTotals.lean).
  GIVEN WITH THE SEED: the statements are not yours to turn. If you find one false, say at which input.
  Laid BY PROGRAM, IN A SANDBOX (cutbox-rows.mjs): the forced cells as the released guide's own fill.sh prints them over the translation 86b689c6be9bf392… (all of the seat's roots in one cut). By AI agents, Wed Nov 11 2026. No macro, syntax, notation, axiom, sorry.
-/
import Derived.Test.YbulkcgegChecked
import GoSem.Claim
import GoSem.ClaimJoined
import GoSem.ClaimMapViews
import Derived.JoinedTies
import Derived.KernelRfl
namespace Go.Proofs.Ybulkcgeg
/- THE CELL 'sum', in the pinned program and in every row, IS THE sha256 OF THE DUMP (.gsa) THAT YbulkcgegProg.lean LOADS. Nothing in Lean hashes anything: it is a label: what it is worth is what the hold of that sum in a sandbox is worth. -/
noncomputable def Yba.pinned : Pinned := { name := "ybulkcgeg", sum := "86b689c6be9bf3923cd69b0ed014c458eb9912088568e56f9666807a2166fdc4", checked := Yba.checked }
namespace Rows
def none {H : Type} : Left H := { results := [], args := [] }

/-- 'store.LawS4114BFresh': WHATEVER THE INPUT: true; the input reads as it did. -/
def lawS4114BFreshSpec : ChangeSpec := { name := "lawS4114BFresh", fn := fun _ => fun
  | [d1, d2, d3] => { results := [.lit (.bool true)], args := [d1, d2, d3] }
  | _ => none }
def lawS4114BFreshRow : OpenClaim := { program := "ybulkcgeg", sum := "86b689c6be9bf3923cd69b0ed014c458eb9912088568e56f9666807a2166fdc4", func := "example.com/reprise/reprise/pkg/store.LawS4114BFresh", spec := "lawS4114BFresh", apart := false }
def LawS4114BFreshSaid : Prop := lawS4114BFreshRow.holds Yba.pinned (OpenSpec.ofChange lawS4114BFreshSpec)

/-- ITS FALSE NEIGHBOUR: 'it returns false'. Refute it at one input. -/
def lawS4114BFreshWrong : ChangeSpec := { name := "lawS4114BFresh", fn := fun _ => fun
  | [d1, d2, d3] => { results := [.lit (.bool false)], args := [d1, d2, d3] }
  | _ => none }
def LawS4114BFreshWrongFalsely : Prop := lawS4114BFreshRow.holds Yba.pinned (OpenSpec.ofChange lawS4114BFreshWrong)

/-- 'store.LawS4114BSpill': WHATEVER THE INPUT: true; the input reads as it did. -/
def lawS4114BSpillSpec : ChangeSpec := { name := "lawS4114BSpill", fn := fun _ => fun
  | [d1, d2, d3, d4, d5, d6, d7, d8] => { results := [.lit (.bool true)], args := [d1, d2, d3, d4, d5, d6, d7, d8] }
  | _ => none }
def lawS4114BSpillRow : OpenClaim := { program := "ybulkcgeg", sum := "86b689c6be9bf3923cd69b0ed014c458eb9912088568e56f9666807a2166fdc4", func := "example.com/reprise/reprise/pkg/store.LawS4114BSpill", spec := "lawS4114BSpill", apart := false }
def LawS4114BSpillSaid : Prop := lawS4114BSpillRow.holds Yba.pinned (OpenSpec.ofChange lawS4114BSpillSpec)

/-- ITS FALSE NEIGHBOUR: 'it returns false'. Refute it at one input. -/
def lawS4114BSpillWrong : ChangeSpec := { name := "lawS4114BSpill", fn := fun _ => fun
  | [d1, d2, d3, d4, d5, d6, d7, d8] => { results := [.lit (.bool false)], args := [d1, d2, d3, d4, d5, d6, d7, d8] }
  | _ => none }
def LawS4114BSpillWrongFalsely : Prop := lawS4114BSpillRow.holds Yba.pinned (OpenSpec.ofChange lawS4114BSpillWrong)

end Rows
end Go.Proofs.Ybulkcgeg
