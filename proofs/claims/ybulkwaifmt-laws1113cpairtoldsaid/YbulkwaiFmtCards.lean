/-
  DERIVED. GIVEN WITH THE SEED: THE CARDS: each row of YbulkwaiFmtRows.lean that lists a variable, with what it lists TIED to the program's text (the seventh form; the later family's looks); each row that meets fmt, with fmt's text TOLD by the authors' own Lean function (tested against real Go, not proved from fmt's source: count such statements apart). THE CARD IS WHAT COUNTS. Prove the row's statement (the work); the ties are given (YbulkwaiFmtTie.lean); close each card by the builder's one call (the guide's Derived/Test/ToyasCard.lean, 'card_holds'). Laid BY PROGRAM, IN A SANDBOX (cutbox-door.mjs). By AI agents, Wed Nov 11 2026. No macro, syntax, notation, axiom, sorry.
-/
import Derived.Test.YbulkwaiFmtRows
import GoSem.ClaimSeven
namespace Go.Proofs.YbulkwaiFmt
namespace Rows

/-- THE TOLD AND TIED CARD OF 'audit.LawS1113CTable'. -/
def lawS1113CTableCard : Claim7 := { stood := { row := lawS1113CTableRow, standIns := [], harness := (true, "c0cb3a85a7e1c6522c791ade2580d1c44412c2fa4a584f22efd842d455060978"), looks := true }, told := true, laidByText := true, laidKinds := [.sentinel, .sentinel], laidTests := true, laidLooks := .later, goes := false }
def LawS1113CTableToldSaid : Prop := Claim7.holds Ybaf.pinned (.plain (OpenSpec.ofChange lawS1113CTableSpec)) lawS1113CTableCard
/-- ITS FALSE NEIGHBOUR. Refute it at one input. -/
def LawS1113CTableToldWrongFalsely : Prop := Claim7.holds Ybaf.pinned (.plain (OpenSpec.ofChange lawS1113CTableWrong)) lawS1113CTableCard

/-- THE TOLD AND TIED CARD OF 'audit.LawS1113CPair'. -/
def lawS1113CPairCard : Claim7 := { stood := { row := lawS1113CPairRow, standIns := [], harness := (true, "c0cb3a85a7e1c6522c791ade2580d1c44412c2fa4a584f22efd842d455060978"), looks := true }, told := true, laidByText := true, laidKinds := [.sentinel, .sentinel], laidTests := true, laidLooks := .later, goes := false }
def LawS1113CPairToldSaid : Prop := Claim7.holds Ybaf.pinned (.plain (OpenSpec.ofChange lawS1113CPairSpec)) lawS1113CPairCard
/-- ITS FALSE NEIGHBOUR. Refute it at one input. -/
def LawS1113CPairToldWrongFalsely : Prop := Claim7.holds Ybaf.pinned (.plain (OpenSpec.ofChange lawS1113CPairWrong)) lawS1113CPairCard
end Rows
end Go.Proofs.YbulkwaiFmt
