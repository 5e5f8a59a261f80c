/-
  No cell of these rows narrows 'for every input' (looked for: loops, veiled, ifaces, maps, wideKeys, modest, calm, conditions, laid).
  DERIVED. THE GIVEN ROWS OF THIS SEAT. 2 by the template 'for every input the law returns true; each argument reads behind the call as it read before'; 0 by the template 'total and deterministic' (their statements: YbulkwbyTotals.lean).
  GIVEN WITH THE SEED: the statements are not yours to turn. If you find one false, say at which input.
  Laid BY PROGRAM, IN A SANDBOX (cutbox-rows.mjs): the forced cells as the released guide's own fill.sh prints them over the translation 77700fbfabfa49bd… (all of the seat's roots in one cut). By AI agents, Wed Nov 11 2026. No macro, syntax, notation, axiom, sorry.
-/
import Derived.Test.YbulkwbyChecked
import GoSem.Claim
import GoSem.ClaimJoined
import GoSem.ClaimMapViews
import Derived.JoinedTies
import Derived.KernelRfl
namespace Go.Proofs.Ybulkwby
/- THE CELL 'sum', in the pinned program and in every row, IS THE sha256 OF THE DUMP (.gsa) THAT YbulkwbyProg.lean LOADS. Nothing in Lean hashes anything: it is a label: what it is worth is what the hold of that sum in a sandbox is worth. -/
noncomputable def Yba.pinned : Pinned := { name := "ybulkwby", sum := "77700fbfabfa49bdf6b86078884158c34fe5a83edab143e653e4172adf0cf016", checked := Yba.checked }
namespace Rows
def none {H : Type} : Left H := { results := [], args := [] }

/-- 'detector.LawS1116CExact': WHATEVER THE INPUT: true; the input reads as it did. -/
def lawS1116CExactSpec : ChangeSpec := { name := "lawS1116CExact", fn := fun _ => fun
  | [d1, d2] => { results := [.lit (.bool true)], args := [d1, d2] }
  | _ => none }
def lawS1116CExactRow : OpenClaim := { program := "ybulkwby", sum := "77700fbfabfa49bdf6b86078884158c34fe5a83edab143e653e4172adf0cf016", func := "example.com/suspicion/suspicion/detector.LawS1116CExact", spec := "lawS1116CExact", inPlace := ["math.sqrt"], unfollowed := true, recurses := true, apart := false }
def LawS1116CExactSaid : Prop := lawS1116CExactRow.holds Yba.pinned (OpenSpec.ofChange lawS1116CExactSpec)

/-- ITS FALSE NEIGHBOUR: 'it returns false'. Refute it at one input. -/
def lawS1116CExactWrong : ChangeSpec := { name := "lawS1116CExact", fn := fun _ => fun
  | [d1, d2] => { results := [.lit (.bool false)], args := [d1, d2] }
  | _ => none }
def LawS1116CExactWrongFalsely : Prop := lawS1116CExactRow.holds Yba.pinned (OpenSpec.ofChange lawS1116CExactWrong)

/-- 'detector.LawS1116CConstant': WHATEVER THE INPUT: true; the input reads as it did. -/
def lawS1116CConstantSpec : ChangeSpec := { name := "lawS1116CConstant", fn := fun _ => fun
  | [d1, d2, d3] => { results := [.lit (.bool true)], args := [d1, d2, d3] }
  | _ => none }
def lawS1116CConstantRow : OpenClaim := { program := "ybulkwby", sum := "77700fbfabfa49bdf6b86078884158c34fe5a83edab143e653e4172adf0cf016", func := "example.com/suspicion/suspicion/detector.LawS1116CConstant", spec := "lawS1116CConstant", inPlace := ["math.sqrt"], unfollowed := true, recurses := true, apart := false }
def LawS1116CConstantSaid : Prop := lawS1116CConstantRow.holds Yba.pinned (OpenSpec.ofChange lawS1116CConstantSpec)

/-- ITS FALSE NEIGHBOUR: 'it returns false'. Refute it at one input. -/
def lawS1116CConstantWrong : ChangeSpec := { name := "lawS1116CConstant", fn := fun _ => fun
  | [d1, d2, d3] => { results := [.lit (.bool false)], args := [d1, d2, d3] }
  | _ => none }
def LawS1116CConstantWrongFalsely : Prop := lawS1116CConstantRow.holds Yba.pinned (OpenSpec.ofChange lawS1116CConstantWrong)

end Rows
end Go.Proofs.Ybulkwby
