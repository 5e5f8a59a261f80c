/-
  NARROWER THAN 'FOR EVERY INPUT', by the rows' own cells (each row's printed sentence says how): LawS1113BTerms: laid.
  DERIVED. THE GIVEN ROWS OF THIS SEAT. 1 by the template 'for every input the law returns true; each argument reads behind the call as it read before'; 0 by the template 'total and deterministic' (their statements: YbulkwaiDoorTotals.lean).
  GIVEN WITH THE SEED: the statements are not yours to turn. If you find one false, say at which input.
  Laid BY PROGRAM, IN A SANDBOX (cutbox-rows.mjs): the forced cells as the released guide's own fill.sh prints them over the translation c23165eb42a63f4e… (all of the seat's roots in one cut). By AI agents, Wed Nov 11 2026. No macro, syntax, notation, axiom, sorry.
-/
import Derived.Test.YbulkwaiDoorChecked
import GoSem.Claim
import GoSem.ClaimJoined
import GoSem.ClaimMapViews
import Derived.JoinedTies
import Derived.KernelRfl
namespace Go.Proofs.YbulkwaiDoor
/- THE CELL 'sum', in the pinned program and in every row, IS THE sha256 OF THE DUMP (.gsa) THAT YbulkwaiDoorProg.lean LOADS. Nothing in Lean hashes anything: it is a label: what it is worth is what the hold of that sum in a sandbox is worth. -/
noncomputable def Ybad.pinned : Pinned := { name := "ybulkwaidoor", sum := "c23165eb42a63f4e3c2d980971212889c995dfae198133f1475d53f2d3bc0154", checked := Ybad.checked }
namespace Rows
def none {H : Type} : Left H := { results := [], args := [] }

/- WHAT THE LISTED PACKAGE-LEVEL VARIABLES READ AS WHEN THE CALL BEGINS. Each datum BY PROGRAM (the guide's laid-datum.mjs) off the statement by which the dump's own 'gosem.cut.vars' lays the variable. In a bare row this is a premise. The card (YbulkwaiDoorCards.lean) ties it to the program's text. -/
def laid_math_sin {H : Type} : DataW H := .agg [.lit (.float .f64 4460209587652500685), .lit (.float .f64 13716528389658582877), .lit (.float .f64 4523617212962785441), .lit (.float .f64 13774824197404483331), .lit (.float .f64 4575957461383575504), .lit (.float .f64 13818544856648471880)]
def laid_math_cos {H : Type} : DataW H := .agg [.lit (.float .f64 13666448263388469915), .lit (.float .f64 4477121864728985349), .lit (.float .f64 13732177093698800582), .lit (.float .f64 4537941361668146421), .lit (.float .f64 13787419979223748497), .lit (.float .f64 4586165620538955083)]
def laid_math_mPi4 {H : Type} : DataW H := .agg [.lit (.int .u64 1), .lit (.int .u64 5040379952546458195), .lit (.int .u64 17892431488136887169), .lit (.int .u64 13169980181085364355), .lit (.int .u64 18204331823439776451), .lit (.int .u64 7946843935494350272), .lit (.int .u64 905889640498799673), .lit (.int .u64 18175356263134875261), .lit (.int .u64 15061281708168349961), .lit (.int .u64 15220161563773041794), .lit (.int .u64 8296664548579374057), .lit (.int .u64 4109744767560208502), .lit (.int .u64 4607516669194743839), .lit (.int .u64 16023283104648321598), .lit (.int .u64 15739233654134936430), .lit (.int .u64 11424645774684705882), .lit (.int .u64 16883842788696515318), .lit (.int .u64 8795094592981902804), .lit (.int .u64 15561835991111744016), .lit (.int .u64 12395701187267450711)]

/-- 'orbit.LawS1113BTerms': WHATEVER THE INPUT: true; the input reads as it did. -/
def lawS1113BTermsSpec : ChangeSpec := { name := "lawS1113BTerms", fn := fun _ => fun
  | [d] => { results := [.lit (.bool true)], args := [d] }
  | _ => none }
def lawS1113BTermsRow : OpenClaim := { program := "ybulkwaidoor", sum := "c23165eb42a63f4e3c2d980971212889c995dfae198133f1475d53f2d3bc0154", func := "example.com/orbital-accord/orbital-accord/pkg/orbit.LawS1113BTerms", spec := "lawS1113BTerms", inPlace := ["math.Float64bits", "math.Float64frombits", "math/bits.Add64", "math.archMax"], named := ["math._sin", "math._cos", "math.mPi4"], apart := false, laid := [("math._sin", laid_math_sin), ("math._cos", laid_math_cos), ("math.mPi4", laid_math_mPi4)] }
def LawS1113BTermsSaid : Prop := lawS1113BTermsRow.holds Ybad.pinned (OpenSpec.ofChange lawS1113BTermsSpec)

/-- ITS FALSE NEIGHBOUR: 'it returns false'. Refute it at one input. -/
def lawS1113BTermsWrong : ChangeSpec := { name := "lawS1113BTerms", fn := fun _ => fun
  | [d] => { results := [.lit (.bool false)], args := [d] }
  | _ => none }
def LawS1113BTermsWrongFalsely : Prop := lawS1113BTermsRow.holds Ybad.pinned (OpenSpec.ofChange lawS1113BTermsWrong)

end Rows
end Go.Proofs.YbulkwaiDoor
