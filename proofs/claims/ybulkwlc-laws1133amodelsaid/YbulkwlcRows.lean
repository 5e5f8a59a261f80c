/-
  No cell of these rows narrows 'for every input' (looked for: loops, veiled, ifaces, maps, wideKeys, modest, calm, conditions, laid).
  DERIVED. THE GIVEN ROWS OF THIS SEAT. 1 by the template 'for every input the law returns true; each argument reads behind the call as it read before'; 0 by the template 'total and deterministic' (their statements: YbulkwlcTotals.lean).
  GIVEN WITH THE SEED: the statements are not yours to turn. If you find one false, say at which input.
  Laid BY PROGRAM, IN A SANDBOX (cutbox-rows.mjs): the forced cells as the released guide's own fill.sh prints them over the translation 7748f3f0b2df4027… (all of the seat's roots in one cut). By AI agents, Wed Nov 11 2026. No macro, syntax, notation, axiom, sorry.
-/
import Derived.Test.YbulkwlcChecked
import GoSem.Claim
import GoSem.ClaimJoined
import GoSem.ClaimMapViews
import Derived.JoinedTies
import Derived.KernelRfl
namespace Go.Proofs.Ybulkwlc
/- THE CELL 'sum', in the pinned program and in every row, IS THE sha256 OF THE DUMP (.gsa) THAT YbulkwlcProg.lean LOADS. Nothing in Lean hashes anything: it is a label: what it is worth is what the hold of that sum in a sandbox is worth. -/
noncomputable def Yba.pinned : Pinned := { name := "ybulkwlc", sum := "7748f3f0b2df4027cd64ca10804728897333dab96755c75c4e8193fdbf40c3a8", checked := Yba.checked }
namespace Rows
def none {H : Type} : Left H := { results := [], args := [] }

/-- 'wslconf.LawS1133AModel': WHATEVER THE INPUT: true; the input reads as it did. -/
def lawS1133AModelSpec : ChangeSpec := { name := "lawS1133AModel", fn := fun _ => fun
  | [d1, d2] => { results := [.lit (.bool true)], args := [d1, d2] }
  | _ => none }
def lawS1133AModelRow : OpenClaim := { program := "ybulkwlc", sum := "7748f3f0b2df4027cd64ca10804728897333dab96755c75c4e8193fdbf40c3a8", func := "example.com/isthmus/isthmus/wslconf.LawS1133AModel", spec := "lawS1133AModel", inPlace := ["internal/abi.NoEscape"], apart := false }
def LawS1133AModelSaid : Prop := lawS1133AModelRow.holds Yba.pinned (OpenSpec.ofChange lawS1133AModelSpec)

/-- ITS FALSE NEIGHBOUR: 'it returns false'. Refute it at one input. -/
def lawS1133AModelWrong : ChangeSpec := { name := "lawS1133AModel", fn := fun _ => fun
  | [d1, d2] => { results := [.lit (.bool false)], args := [d1, d2] }
  | _ => none }
def LawS1133AModelWrongFalsely : Prop := lawS1133AModelRow.holds Yba.pinned (OpenSpec.ofChange lawS1133AModelWrong)

end Rows
end Go.Proofs.Ybulkwlc
