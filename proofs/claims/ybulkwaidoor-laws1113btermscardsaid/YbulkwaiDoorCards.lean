/-
  DERIVED. GIVEN WITH THE SEED: THE CARDS: each row of YbulkwaiDoorRows.lean that lists a variable, with what it lists TIED to the program's text (the seventh form; the later family's looks); each row that meets fmt, with fmt's text TOLD by the authors' own Lean function (tested against real Go, not proved from fmt's source: count such statements apart). THE CARD IS WHAT COUNTS. Prove the row's statement (the work); the ties are given (YbulkwaiDoorTie.lean); close each card by the builder's one call (the guide's Derived/Test/ToyasCard.lean, 'card_holds'). Laid BY PROGRAM, IN A SANDBOX (cutbox-door.mjs). By AI agents, Wed Nov 11 2026. No macro, syntax, notation, axiom, sorry.
-/
import Derived.Test.YbulkwaiDoorRows
import GoSem.ClaimSeven
namespace Go.Proofs.YbulkwaiDoor
namespace Rows

/-- THE TIED CARD OF 'orbit.LawS1113BTerms'. -/
def lawS1113BTermsCard : Claim7 := { stood := { row := lawS1113BTermsRow, standIns := [], harness := (true, "1d4cb44e8c5300a4d444ba42903d8fefad5483e80cb8dbf74ccdcab49e8f7488"), looks := false }, kinds := [], alts := [], laidByText := true, laidKinds := [.data, .data, .data], laidTests := true, laidLooks := .later }
def LawS1113BTermsCardSaid : Prop := Claim7.holds Ybad.pinned (.plain (OpenSpec.ofChange lawS1113BTermsSpec)) lawS1113BTermsCard
end Rows
end Go.Proofs.YbulkwaiDoor
