/-
  No cell of these rows narrows 'for every input' (looked for: loops, veiled, ifaces, maps, wideKeys, modest, calm, conditions, laid).
  DERIVED. THE GIVEN ROWS OF THIS SEAT. 1 by the template 'for every input the law returns true; each argument reads behind the call as it read before'; 0 by the template 'total and deterministic' (their statements: YbulkcgfwTotals.lean).
  GIVEN WITH THE SEED: the statements are not yours to turn. If you find one false, say at which input.
  Laid BY PROGRAM, IN A SANDBOX (cutbox-rows.mjs): the forced cells as the released guide's own fill.sh prints them over the translation b1f96f26850f4133… (all of the seat's roots in one cut). By AI agents, Wed Nov 11 2026. No macro, syntax, notation, axiom, sorry.
-/
import Derived.Test.YbulkcgfwChecked
import GoSem.Claim
import GoSem.ClaimJoined
import GoSem.ClaimMapViews
import Derived.JoinedTies
import Derived.KernelRfl
namespace Go.Proofs.Ybulkcgfw
/- THE CELL 'sum', in the pinned program and in every row, IS THE sha256 OF THE DUMP (.gsa) THAT YbulkcgfwProg.lean LOADS. Nothing in Lean hashes anything: it is a label: what it is worth is what the hold of that sum in a sandbox is worth. -/
noncomputable def Yba.pinned : Pinned := { name := "ybulkcgfw", sum := "b1f96f26850f413396e800eab028a9c10852ed3ddfd9436a348afdfaeebe10f3", checked := Yba.checked }
namespace Rows
def none {H : Type} : Left H := { results := [], args := [] }

/-- 'value.LawS4117AWalk': WHATEVER THE INPUT: true; the input reads as it did. -/
def lawS4117AWalkSpec : ChangeSpec := { name := "lawS4117AWalk", fn := fun _ => fun
  | [d1, d2, d3, d4] => { results := [.lit (.bool true)], args := [d1, d2, d3, d4] }
  | _ => none }
def lawS4117AWalkRow : OpenClaim := { program := "ybulkcgfw", sum := "b1f96f26850f413396e800eab028a9c10852ed3ddfd9436a348afdfaeebe10f3", func := "example.com/markconv/markconv/pkg/value.LawS4117AWalk", spec := "lawS4117AWalk", unfollowed := true, recurses := true, apart := false }
def LawS4117AWalkSaid : Prop := lawS4117AWalkRow.holds Yba.pinned (OpenSpec.ofChange lawS4117AWalkSpec)

/-- ITS FALSE NEIGHBOUR: 'it returns false'. Refute it at one input. -/
def lawS4117AWalkWrong : ChangeSpec := { name := "lawS4117AWalk", fn := fun _ => fun
  | [d1, d2, d3, d4] => { results := [.lit (.bool false)], args := [d1, d2, d3, d4] }
  | _ => none }
def LawS4117AWalkWrongFalsely : Prop := lawS4117AWalkRow.holds Yba.pinned (OpenSpec.ofChange lawS4117AWalkWrong)

end Rows
end Go.Proofs.Ybulkcgfw
