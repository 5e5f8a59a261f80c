/-
  No cell of these rows narrows 'for every input' (looked for: loops, veiled, ifaces, maps, wideKeys, modest, calm, conditions, laid).
  DERIVED. THE GIVEN ROWS OF THIS SEAT. 2 by the template 'for every input the law returns true; each argument reads behind the call as it read before'; 0 by the template 'total and deterministic' (their statements: YbulkwaiTotals.lean).
  GIVEN WITH THE SEED: the statements are not yours to turn. If you find one false, say at which input.
  Laid BY PROGRAM, IN A SANDBOX (cutbox-rows.mjs): the forced cells as the released guide's own fill.sh prints them over the translation c31496c5c91d74b6… (all of the seat's roots in one cut). By AI agents, Wed Nov 11 2026. No macro, syntax, notation, axiom, sorry.
-/
import Derived.Test.YbulkwaiChecked
import GoSem.Claim
import GoSem.ClaimJoined
import GoSem.ClaimMapViews
import Derived.JoinedTies
import Derived.KernelRfl
namespace Go.Proofs.Ybulkwai
/- THE CELL 'sum', in the pinned program and in every row, IS THE sha256 OF THE DUMP (.gsa) THAT YbulkwaiProg.lean LOADS. Nothing in Lean hashes anything: it is a label: what it is worth is what the hold of that sum in a sandbox is worth. -/
noncomputable def Yba.pinned : Pinned := { name := "ybulkwai", sum := "c31496c5c91d74b66dd12dd84d554d86e5b7af00774701873b00aa13d7e623cd", checked := Yba.checked }
namespace Rows
def none {H : Type} : Left H := { results := [], args := [] }

/-- 'commit.LawS1113ARest': WHATEVER THE INPUT: true; the input reads as it did. -/
def lawS1113ARestSpec : ChangeSpec := { name := "lawS1113ARest", fn := fun _ => fun
  | [d1, d2, d3] => { results := [.lit (.bool true)], args := [d1, d2, d3] }
  | _ => none }
def lawS1113ARestRow : OpenClaim := { program := "ybulkwai", sum := "c31496c5c91d74b66dd12dd84d554d86e5b7af00774701873b00aa13d7e623cd", func := "example.com/orbital-accord/orbital-accord/pkg/commit.LawS1113ARest", spec := "lawS1113ARest", apart := false }
def LawS1113ARestSaid : Prop := lawS1113ARestRow.holds Yba.pinned (OpenSpec.ofChange lawS1113ARestSpec)

/-- ITS FALSE NEIGHBOUR: 'it returns false'. Refute it at one input. -/
def lawS1113ARestWrong : ChangeSpec := { name := "lawS1113ARest", fn := fun _ => fun
  | [d1, d2, d3] => { results := [.lit (.bool false)], args := [d1, d2, d3] }
  | _ => none }
def LawS1113ARestWrongFalsely : Prop := lawS1113ARestRow.holds Yba.pinned (OpenSpec.ofChange lawS1113ARestWrong)

/-- 'commit.LawS1113AThenEnd': WHATEVER THE INPUT: true; the input reads as it did. -/
def lawS1113AThenEndSpec : ChangeSpec := { name := "lawS1113AThenEnd", fn := fun _ => fun
  | [d1, d2] => { results := [.lit (.bool true)], args := [d1, d2] }
  | _ => none }
def lawS1113AThenEndRow : OpenClaim := { program := "ybulkwai", sum := "c31496c5c91d74b66dd12dd84d554d86e5b7af00774701873b00aa13d7e623cd", func := "example.com/orbital-accord/orbital-accord/pkg/commit.LawS1113AThenEnd", spec := "lawS1113AThenEnd", apart := false }
def LawS1113AThenEndSaid : Prop := lawS1113AThenEndRow.holds Yba.pinned (OpenSpec.ofChange lawS1113AThenEndSpec)

/-- ITS FALSE NEIGHBOUR: 'it returns false'. Refute it at one input. -/
def lawS1113AThenEndWrong : ChangeSpec := { name := "lawS1113AThenEnd", fn := fun _ => fun
  | [d1, d2] => { results := [.lit (.bool false)], args := [d1, d2] }
  | _ => none }
def LawS1113AThenEndWrongFalsely : Prop := lawS1113AThenEndRow.holds Yba.pinned (OpenSpec.ofChange lawS1113AThenEndWrong)

end Rows
end Go.Proofs.Ybulkwai
