/-
  NARROWER THAN 'FOR EVERY INPUT', by the rows' own cells (each row's printed sentence says how): LawS4116CCut: laid · LawS4116CArrive: laid.
  DERIVED. THE GIVEN ROWS OF THIS SEAT. 2 by the template 'for every input the law returns true; each argument reads behind the call as it read before'; 0 by the template 'total and deterministic' (their statements: YbulkcgfiFmtTotals.lean).
  GIVEN WITH THE SEED: the statements are not yours to turn. If you find one false, say at which input.
  Laid BY PROGRAM, IN A SANDBOX (cutbox-rows.mjs): the forced cells as the released guide's own fill.sh prints them over the translation 23413c284fa95a76… (all of the seat's roots in one cut). By AI agents, Wed Nov 11 2026. No macro, syntax, notation, axiom, sorry.
-/
import Derived.Test.YbulkcgfiFmtChecked
import GoSem.Claim
import GoSem.ClaimJoined
import GoSem.ClaimMapViews
import Derived.JoinedTies
import Derived.KernelRfl
namespace Go.Proofs.YbulkcgfiFmt
/- THE CELL 'sum', in the pinned program and in every row, IS THE sha256 OF THE DUMP (.gsa) THAT YbulkcgfiFmtProg.lean LOADS. Nothing in Lean hashes anything: it is a label: what it is worth is what the hold of that sum in a sandbox is worth. -/
noncomputable def Ybaf.pinned : Pinned := { name := "ybulkcgfifmt", sum := "23413c284fa95a76f5aedf25a5c7c18c9958ae5cd5b685bb72a5f58ae5e1e77c", checked := Ybaf.checked }
namespace Rows
def none {H : Type} : Left H := { results := [], args := [] }

/- WHAT THE LISTED PACKAGE-LEVEL VARIABLES READ AS WHEN THE CALL BEGINS. Each datum BY PROGRAM (the guide's laid-datum.mjs) off the statement by which the dump's own 'gosem.cut.vars' lays the variable. In a bare row this is a premise. The card (YbulkcgfiFmtCards.lean) ties it to the program's text. -/
def laid_io_EOF {H : Type} : DataW H := .iface "*errors.errorString" (.ptr (.agg [.lit (.string [69, 79, 70])]))
def laid_io_ErrUnexpectedEOF {H : Type} : DataW H := .iface "*errors.errorString" (.ptr (.agg [.lit (.string [117, 110, 101, 120, 112, 101, 99, 116, 101, 100, 32, 69, 79, 70])]))

/-- 'rangefold.LawS4116CCut': WHATEVER THE INPUT: true; the input reads as it did. -/
def lawS4116CCutSpec : ChangeSpec := { name := "lawS4116CCut", fn := fun _ => fun
  | [d1, d2, d3, d4, d5, d6, d7] => { results := [.lit (.bool true)], args := [d1, d2, d3, d4, d5, d6, d7] }
  | _ => none }
def lawS4116CCutRow : OpenClaim := { program := "ybulkcgfifmt", sum := "23413c284fa95a76f5aedf25a5c7c18c9958ae5cd5b685bb72a5f58ae5e1e77c", func := "example.com/rangefold/rangefold.LawS4116CCut", spec := "lawS4116CCut", stops := ["fmt.Sprintf", "fmt.errorf"], inPlace := ["fmt.Sprintf", "internal/bytealg.Compare", "fmt.errorf"], unfollowed := true, recurses := true, named := ["io.EOF", "io.ErrUnexpectedEOF"], apart := false, laid := [("io.EOF", laid_io_EOF), ("io.ErrUnexpectedEOF", laid_io_ErrUnexpectedEOF)] }
/-- NO THEOREM (fmt's text is open here; it may be false): for the released tool's asking of the row's closed facts alone. THE STATEMENT IS 'LawS4116CCutToldSaid' (YbulkcgfiFmtCards.lean). -/
def LawS4116CCutFormAsk : Prop := lawS4116CCutRow.holds Ybaf.pinned (OpenSpec.ofChange lawS4116CCutSpec)

/-- ITS FALSE NEIGHBOUR: 'it returns false'. Refute it at one input. -/
def lawS4116CCutWrong : ChangeSpec := { name := "lawS4116CCut", fn := fun _ => fun
  | [d1, d2, d3, d4, d5, d6, d7] => { results := [.lit (.bool false)], args := [d1, d2, d3, d4, d5, d6, d7] }
  | _ => none }
def LawS4116CCutWrongFormAsk : Prop := lawS4116CCutRow.holds Ybaf.pinned (OpenSpec.ofChange lawS4116CCutWrong)

/-- 'rangefold.LawS4116CArrive': WHATEVER THE INPUT: true; the input reads as it did. -/
def lawS4116CArriveSpec : ChangeSpec := { name := "lawS4116CArrive", fn := fun _ => fun
  | [d1, d2, d3, d4, d5, d6, d7] => { results := [.lit (.bool true)], args := [d1, d2, d3, d4, d5, d6, d7] }
  | _ => none }
def lawS4116CArriveRow : OpenClaim := { program := "ybulkcgfifmt", sum := "23413c284fa95a76f5aedf25a5c7c18c9958ae5cd5b685bb72a5f58ae5e1e77c", func := "example.com/rangefold/rangefold.LawS4116CArrive", spec := "lawS4116CArrive", stops := ["fmt.Sprintf", "fmt.errorf"], inPlace := ["fmt.Sprintf", "internal/bytealg.Compare", "fmt.errorf"], unfollowed := true, recurses := true, named := ["io.EOF", "io.ErrUnexpectedEOF"], apart := false, laid := [("io.EOF", laid_io_EOF), ("io.ErrUnexpectedEOF", laid_io_ErrUnexpectedEOF)] }
/-- NO THEOREM (fmt's text is open here; it may be false): for the released tool's asking of the row's closed facts alone. THE STATEMENT IS 'LawS4116CArriveToldSaid' (YbulkcgfiFmtCards.lean). -/
def LawS4116CArriveFormAsk : Prop := lawS4116CArriveRow.holds Ybaf.pinned (OpenSpec.ofChange lawS4116CArriveSpec)

/-- ITS FALSE NEIGHBOUR: 'it returns false'. Refute it at one input. -/
def lawS4116CArriveWrong : ChangeSpec := { name := "lawS4116CArrive", fn := fun _ => fun
  | [d1, d2, d3, d4, d5, d6, d7] => { results := [.lit (.bool false)], args := [d1, d2, d3, d4, d5, d6, d7] }
  | _ => none }
def LawS4116CArriveWrongFormAsk : Prop := lawS4116CArriveRow.holds Ybaf.pinned (OpenSpec.ofChange lawS4116CArriveWrong)

end Rows
end Go.Proofs.YbulkcgfiFmt
