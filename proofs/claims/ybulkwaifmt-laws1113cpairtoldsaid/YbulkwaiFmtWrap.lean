import Derived.Test.YbulkwaiFmtTable
import Derived.Test.YbulkwaiFmtTie
import Derived.Test.YbulkwaiFmtCards
import Derived.ProofKit
import Derived.OpenShut
import Derived.ChangeOld
import Derived.Stop.JoinedAt
import Derived.Stop.Texts
import Derived.Stop.LaidErr
import Derived.Stop.LaidTwo
import Derived.Stop.JoinedTold
import Derived.SevenTiedAt
namespace Go.Proofs.YbulkwaiFmt
open Go.ChangeShapes Go.WideShapes Go.ChangeAt Go.RowKit
open Go.Extern.Stop Go.Stop Go.Extern

theorem own : ownKnob Ybaf.prog.godebug = none := by kernel_rfl
theorem laidOut : laidOutB Ybaf.pinned.checked.prog = true := by kernel_rfl
theorem stops : Ybaf.pinned.checked.prog.stops = ["fmt.errorf"] := by kernel_rfl
theorem stopKnobs : Ybaf.pinned.checked.prog.stopKnobs = [] := by kernel_rfl
theorem quiet (os : Os) : Stop.quiet Ybaf.pinned.checked.prog os := by
  intro k hk
  rw [stopKnobs] at hk
  cases hk
theorem gE : Ybaf.prog.globalNamed "io.EOF" = some 0 := by kernel_rfl
theorem gU : Ybaf.prog.globalNamed "io.ErrUnexpectedEOF" = some 1 := by kernel_rfl
theorem gEType : (Ybaf.prog.globals[0]?).map (·.type) = some 33 := by kernel_rfl
theorem gUType : (Ybaf.prog.globals[1]?).map (·.type) = some 33 := by kernel_rfl
theorem cells60 : Ybaf.prog.cellsOf 60 = 1 := by kernel_rfl
theorem cells9 : Ybaf.prog.cellsOf 9 = 1 := by kernel_rfl
/-- The one row of the type that points to an errors.errorString. -/
theorem row58 (u : TypeId) (h : Ybaf.prog.typeName? 3 u = some (String.singleton '*' ++ "errors.errorString")) : u = 58 :=
  typeName_ptr_named (nm := "errors.errorString") (by kernel_rfl) (by kernel_rfl) (by decide) u (h.trans (congrArg some (by decide)))

def eofS : ByteArray := { data := #[69, 79, 70] }
def unexpS : ByteArray := { data := #[117, 110, 101, 120, 112, 101, 99, 116, 101, 100, 32, 69, 79, 70] }
/-- One start that fits: the two sentinels as their initialisers lay them. -/
def lowOf (P : Program) : Nat := (World.holding P default ⟨#[], #[], []⟩).heap.size
def laidWorldOf (P : Program) (os : Os) : World :=
  let w0 := World.holding P os ⟨#[.cells #[.string eofS] 60, .cells #[.string unexpS] 60], #[], []⟩
  { w0 with heap := (w0.heap.modify 0 fun
      | .cells _ t frozen => .cells #[.iface 58 (.pointer (some ⟨lowOf P, 0, none⟩))] t frozen
      | o => o).modify 1 fun
      | .cells _ t frozen => .cells #[.iface 58 (.pointer (some ⟨lowOf P + 1, 0, none⟩))] t frozen
      | o => o }
theorem laid_met (os : Os) (args : Array Value) : laidMet Ybaf.prog [("io.EOF", Rows.laid_io_EOF), ("io.ErrUnexpectedEOF", Rows.laid_io_ErrUnexpectedEOF)] ((laidWorldOf Ybaf.prog os).forCall (fun _ _ => 0) ⟨#[], args, []⟩).memory :=
  laidMet_of_run (ps := [.cell 0 0, .cell (lowOf Ybaf.prog) 0, .cell 1 0, .cell (lowOf Ybaf.prog + 1) 0]) 8 (by kernel_rfl) (by kernel_rfl) (by kernel_rfl)

/-- What 'laid' gives the walks. -/
theorem sentinels {W : World} (hL : laidMet Ybaf.prog [("io.EOF", Rows.laid_io_EOF), ("io.ErrUnexpectedEOF", Rows.laid_io_ErrUnexpectedEOF)] W) :
    ∃ ev uv, W.cell? ⟨0, 0, none⟩ = some (.iface 58 (.pointer (some ev))) ∧ W.cell? ⟨1, 0, none⟩ = some (.iface 58 (.pointer (some uv))) := by
  obtain ⟨a0, a1, s0, s1, c0, c1, t0, t1, hv0, hv1, _⟩ := laid_sentinels2 hL gE gEType gU gUType Ybaf.underlying33 (fun u h => row58 u (h.trans (congrArg some (by decide)))) Ybaf.underlying58 Ybaf.underlying60 rfl rfl Ybaf.underlying9 cells60 cells9
  exact ⟨a0, a1, by simpa using World.var?_cell gE hv0 0, by simpa using World.var?_cell gU hv1 0⟩

end Go.Proofs.YbulkwaiFmt
