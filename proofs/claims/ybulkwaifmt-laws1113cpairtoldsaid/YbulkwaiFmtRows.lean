/-
  NARROWER THAN 'FOR EVERY INPUT', by the rows' own cells (each row's printed sentence says how): LawS1113CTable: laid · LawS1113CPair: laid.
  DERIVED. THE GIVEN ROWS OF THIS SEAT. 2 by the template 'for every input the law returns true; each argument reads behind the call as it read before'; 0 by the template 'total and deterministic' (their statements: YbulkwaiFmtTotals.lean).
  GIVEN WITH THE SEED: the statements are not yours to turn. If you find one false, say at which input.
  Laid BY PROGRAM, IN A SANDBOX (cutbox-rows.mjs): the forced cells as the released guide's own fill.sh prints them over the translation 4930cbf1bd38f91c… (all of the seat's roots in one cut). By AI agents, Wed Nov 11 2026. No macro, syntax, notation, axiom, sorry.
-/
import Derived.Test.YbulkwaiFmtChecked
import GoSem.Claim
import GoSem.ClaimJoined
import GoSem.ClaimMapViews
import Derived.JoinedTies
import Derived.KernelRfl
namespace Go.Proofs.YbulkwaiFmt
/- THE CELL 'sum', in the pinned program and in every row, IS THE sha256 OF THE DUMP (.gsa) THAT YbulkwaiFmtProg.lean LOADS. Nothing in Lean hashes anything: it is a label: what it is worth is what the hold of that sum in a sandbox is worth. -/
noncomputable def Ybaf.pinned : Pinned := { name := "ybulkwaifmt", sum := "4930cbf1bd38f91c005774722c027108bd4c006b799c2e4643e680f33836881f", checked := Ybaf.checked }
namespace Rows
def none {H : Type} : Left H := { results := [], args := [] }

/- WHAT THE LISTED PACKAGE-LEVEL VARIABLES READ AS WHEN THE CALL BEGINS. Each datum BY PROGRAM (the guide's laid-datum.mjs) off the statement by which the dump's own 'gosem.cut.vars' lays the variable. In a bare row this is a premise. The card (YbulkwaiFmtCards.lean) ties it to the program's text. -/
def laid_io_EOF {H : Type} : DataW H := .iface "*errors.errorString" (.ptr (.agg [.lit (.string [69, 79, 70])]))
def laid_io_ErrUnexpectedEOF {H : Type} : DataW H := .iface "*errors.errorString" (.ptr (.agg [.lit (.string [117, 110, 101, 120, 112, 101, 99, 116, 101, 100, 32, 69, 79, 70])]))

/-- 'audit.LawS1113CTable': WHATEVER THE INPUT: true; the input reads as it did. -/
def lawS1113CTableSpec : ChangeSpec := { name := "lawS1113CTable", fn := fun _ => fun
  | [d1, d2] => { results := [.lit (.bool true)], args := [d1, d2] }
  | _ => none }
def lawS1113CTableRow : OpenClaim := { program := "ybulkwaifmt", sum := "4930cbf1bd38f91c005774722c027108bd4c006b799c2e4643e680f33836881f", func := "example.com/orbital-accord/orbital-accord/pkg/audit.LawS1113CTable", spec := "lawS1113CTable", stops := ["fmt.errorf"], inPlace := ["fmt.errorf"], unfollowed := true, recurses := true, named := ["io.EOF", "io.ErrUnexpectedEOF"], apart := false, laid := [("io.EOF", laid_io_EOF), ("io.ErrUnexpectedEOF", laid_io_ErrUnexpectedEOF)] }
/-- NO THEOREM (fmt's text is open here; it may be false): for the released tool's asking of the row's closed facts alone. THE STATEMENT IS 'LawS1113CTableToldSaid' (YbulkwaiFmtCards.lean). -/
def LawS1113CTableFormAsk : Prop := lawS1113CTableRow.holds Ybaf.pinned (OpenSpec.ofChange lawS1113CTableSpec)

/-- ITS FALSE NEIGHBOUR: 'it returns false'. Refute it at one input. -/
def lawS1113CTableWrong : ChangeSpec := { name := "lawS1113CTable", fn := fun _ => fun
  | [d1, d2] => { results := [.lit (.bool false)], args := [d1, d2] }
  | _ => none }
def LawS1113CTableWrongFormAsk : Prop := lawS1113CTableRow.holds Ybaf.pinned (OpenSpec.ofChange lawS1113CTableWrong)

/-- 'audit.LawS1113CPair': WHATEVER THE INPUT: true; the input reads as it did. -/
def lawS1113CPairSpec : ChangeSpec := { name := "lawS1113CPair", fn := fun _ => fun
  | [d1, d2, d3, d4, d5] => { results := [.lit (.bool true)], args := [d1, d2, d3, d4, d5] }
  | _ => none }
def lawS1113CPairRow : OpenClaim := { program := "ybulkwaifmt", sum := "4930cbf1bd38f91c005774722c027108bd4c006b799c2e4643e680f33836881f", func := "example.com/orbital-accord/orbital-accord/pkg/audit.LawS1113CPair", spec := "lawS1113CPair", stops := ["fmt.errorf"], inPlace := ["fmt.errorf"], unfollowed := true, recurses := true, named := ["io.EOF", "io.ErrUnexpectedEOF"], apart := false, laid := [("io.EOF", laid_io_EOF), ("io.ErrUnexpectedEOF", laid_io_ErrUnexpectedEOF)] }
/-- NO THEOREM (fmt's text is open here; it may be false): for the released tool's asking of the row's closed facts alone. THE STATEMENT IS 'LawS1113CPairToldSaid' (YbulkwaiFmtCards.lean). -/
def LawS1113CPairFormAsk : Prop := lawS1113CPairRow.holds Ybaf.pinned (OpenSpec.ofChange lawS1113CPairSpec)

/-- ITS FALSE NEIGHBOUR: 'it returns false'. Refute it at one input. -/
def lawS1113CPairWrong : ChangeSpec := { name := "lawS1113CPair", fn := fun _ => fun
  | [d1, d2, d3, d4, d5] => { results := [.lit (.bool false)], args := [d1, d2, d3, d4, d5] }
  | _ => none }
def LawS1113CPairWrongFormAsk : Prop := lawS1113CPairRow.holds Ybaf.pinned (OpenSpec.ofChange lawS1113CPairWrong)

end Rows
end Go.Proofs.YbulkwaiFmt
