/-
  No cell of these rows narrows 'for every input' (looked for: loops, veiled, ifaces, maps, wideKeys, modest, calm, conditions, laid).
  DERIVED. THE GIVEN ROWS OF THIS SEAT. 2 by the template 'for every input the law returns true; each argument reads behind the call as it read before'; 0 by the template 'total and deterministic' (their statements: YbulkcgfiTotals.lean).
  GIVEN WITH THE SEED: the statements are not yours to turn. If you find one false, say at which input.
  Laid BY PROGRAM, IN A SANDBOX (cutbox-rows.mjs): the forced cells as the released guide's own fill.sh prints them over the translation cf742be6749f064f… (all of the seat's roots in one cut). By AI agents, Wed Nov 11 2026. No macro, syntax, notation, axiom, sorry.
-/
import Derived.Test.YbulkcgfiChecked
import GoSem.Claim
import GoSem.ClaimJoined
import GoSem.ClaimMapViews
import Derived.JoinedTies
import Derived.KernelRfl
namespace Go.Proofs.Ybulkcgfi
/- THE CELL 'sum', in the pinned program and in every row, IS THE sha256 OF THE DUMP (.gsa) THAT YbulkcgfiProg.lean LOADS. Nothing in Lean hashes anything: it is a label: what it is worth is what the hold of that sum in a sandbox is worth. -/
noncomputable def Yba.pinned : Pinned := { name := "ybulkcgfi", sum := "cf742be6749f064faf36445e492f0b58cf36e19d8879f87dd6154fa95b5a26f4", checked := Yba.checked }
namespace Rows
def none {H : Type} : Left H := { results := [], args := [] }

/-- 'rangefold.LawS4116AFew': WHATEVER THE INPUT: true; the input reads as it did. -/
def lawS4116AFewSpec : ChangeSpec := { name := "lawS4116AFew", fn := fun _ => fun
  | [d] => { results := [.lit (.bool true)], args := [d] }
  | _ => none }
def lawS4116AFewRow : OpenClaim := { program := "ybulkcgfi", sum := "cf742be6749f064faf36445e492f0b58cf36e19d8879f87dd6154fa95b5a26f4", func := "example.com/rangefold/rangefold.LawS4116AFew", spec := "lawS4116AFew", inPlace := ["internal/bytealg.Compare"], unfollowed := true, recurses := true, apart := false }
def LawS4116AFewSaid : Prop := lawS4116AFewRow.holds Yba.pinned (OpenSpec.ofChange lawS4116AFewSpec)

/-- ITS FALSE NEIGHBOUR: 'it returns false'. Refute it at one input. -/
def lawS4116AFewWrong : ChangeSpec := { name := "lawS4116AFew", fn := fun _ => fun
  | [d] => { results := [.lit (.bool false)], args := [d] }
  | _ => none }
def LawS4116AFewWrongFalsely : Prop := lawS4116AFewRow.holds Yba.pinned (OpenSpec.ofChange lawS4116AFewWrong)

/-- 'rangefold.LawS4116AAny': WHATEVER THE INPUT: true; the input reads as it did. -/
def lawS4116AAnySpec : ChangeSpec := { name := "lawS4116AAny", fn := fun _ => fun
  | [d] => { results := [.lit (.bool true)], args := [d] }
  | _ => none }
def lawS4116AAnyRow : OpenClaim := { program := "ybulkcgfi", sum := "cf742be6749f064faf36445e492f0b58cf36e19d8879f87dd6154fa95b5a26f4", func := "example.com/rangefold/rangefold.LawS4116AAny", spec := "lawS4116AAny", inPlace := ["internal/bytealg.Compare"], unfollowed := true, recurses := true, apart := false }
def LawS4116AAnySaid : Prop := lawS4116AAnyRow.holds Yba.pinned (OpenSpec.ofChange lawS4116AAnySpec)

/-- ITS FALSE NEIGHBOUR: 'it returns false'. Refute it at one input. -/
def lawS4116AAnyWrong : ChangeSpec := { name := "lawS4116AAny", fn := fun _ => fun
  | [d] => { results := [.lit (.bool false)], args := [d] }
  | _ => none }
def LawS4116AAnyWrongFalsely : Prop := lawS4116AAnyRow.holds Yba.pinned (OpenSpec.ofChange lawS4116AAnyWrong)

end Rows
end Go.Proofs.Ybulkcgfi
