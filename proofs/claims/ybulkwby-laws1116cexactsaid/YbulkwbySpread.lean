/- The walk of spread, over any closure that hands back its argument as a float. -/
import Derived.Test.YbulkwbySums
import Derived.Test.YbulkwbyRows
import Derived.WalkKit
import Derived.WalkSpells
import Derived.ProofKit
import Derived.Below
import Derived.Deep.LoopGhost
import Derived.WalkLawsBesides
import Derived.Stop.CallBack
namespace Go.Proofs.Ybulkwby
open Go.RowKit Fl

theorem hide {p : Prop} (h : p) : Hid p := h
theorem unhide {p : Prop} (h : Hid p) : p := h
theorem r_add {x y r : Nat} (h : Ieee.double.add x y = some r) (w : World) : (binOp .add 24 (.float .f64 x) (.float .f64 y)).run Yba.prog w = .ok (.float .f64 r) w := run_float_arith (P := Yba.prog) w .add 24 .f64 x y r h
theorem r_sub {x y r : Nat} (h : Ieee.double.sub x y = some r) (w : World) : (binOp .sub 24 (.float .f64 x) (.float .f64 y)).run Yba.prog w = .ok (.float .f64 r) w := run_float_arith (P := Yba.prog) w .sub 24 .f64 x y r h
theorem r_mul {x y r : Nat} (h : Ieee.double.mul x y = some r) (w : World) : (binOp .mul 24 (.float .f64 x) (.float .f64 y)).run Yba.prog w = .ok (.float .f64 r) w := run_float_arith (P := Yba.prog) w .mul 24 .f64 x y r h
theorem r_quo {x y r : Nat} (h : Ieee.double.div x y = some r) (w : World) : (binOp .quo 24 (.float .f64 x) (.float .f64 y)).run Yba.prog w = .ok (.float .f64 r) w := run_float_arith (P := Yba.prog) w .quo 24 .f64 x y r h
theorem r_int (n : Int) (w : World) : (convert 3 24 (.int .i64 n)).run Yba.prog w = .ok (.float .f64 (ofI n)) w := run_convert_int_float (P := Yba.prog) w 3 24 .i64 .f64 n (by kernel_rfl) (by kernel_rfl)
theorem r_i8 (n : Int) (w : World) : (convert 23 24 (.int .i8 n)).run Yba.prog w = .ok (.float .f64 (ofI n)) w := run_convert_int_float (P := Yba.prog) w 23 24 .i8 .f64 n (by kernel_rfl) (by kernel_rfl)

/-- Offsets of the runs. -/
def Off (N : Nat → Nat) : Nat → Nat
  | 0 => 0
  | k + 1 => Off N k + N k

theorem r_index (s : Nat → Value) (k : Nat) (hk : k < 2) (w : World) : (Instr.index 28 (.agg #[s 0, s 1]) (.int .i64 k)).run Yba.prog w = .ok (s k) w := by
  obtain rfl | rfl : k = 0 ∨ k = 1 := by omega
  · kernel_rfl
  · kernel_rfl

theorem call11 (args : Array Value) (w : World) : (callFunc 11 args).run Yba.prog w = ((Extern.MathSqrt.sqrt args).run Yba.prog w).andThen fun v w' => .ok (.value v) w' :=
  run_callFunc_extern Yba.func11 (by kernel_rfl) (by kernel_rfl) (by kernel_rfl) (by kernel_rfl) args w
theorem sqrt_run {x r : Nat} (h : Ieee.double.sqrt x = some r) (w : World) : (Extern.MathSqrt.sqrt #[.float .f64 x]).run Yba.prog w = .ok (.float .f64 r) w := by
  have e : Extern.MathSqrt.sqrt #[.float .f64 x] = (match FloatKind.f64.format.sqrt x with | some r => pure (.float .f64 r) | none => do pure (.float .f64 (← choose (.nanBits .f64 x x)))) := rfl
  rw [e, show FloatKind.f64.format.sqrt x = some r from h]
  rfl
set_option maxHeartbeats 400000 in
theorem sqrt_any {x r : Nat} (h : Ieee.double.sqrt x = some r) (w : World) :
    Calls Yba.prog 9 #[.float .f64 x] w fun e w' => e = .returned (.float .f64 r) ∧ w' = w := by
  have h1 := call11
  have h2 := fun w => sqrt_run h w
  clear h
  go_enter Yba.func9, Yba.ntmps9
  go_wp2
  go_ret
  exact ⟨rfl, rfl⟩
/-- What the walk is told of the two runs and of the closure. -/
structure Runs (f : Nat → Int) (A N : Nat → Nat) (n Bc G B : Nat) (lg : Nat → Int) (Inv : Nat → World → Prop) : Prop where
  small : Small f
  off : Off N 2 = n
  le : n ≤ 2048
  l1 : ∀ j, j < n → lg j = f j
  l2 : ∀ j, lg (n + 2 * j) = f j
  l3 : ∀ j, lg (n + 2 * j + 1) = f j
  cells : ∀ j w k i, Inv j w → k < 2 → i < N k → w.cell? ⟨A k, i, none⟩ = some (.int .i8 (f (Off N k + i)))
  box : ∀ j w k, Inv j w → k < 2 → w.cell? ⟨B, k, none⟩ = some (.slice (some ⟨A k, 0, none⟩) (N k) (N k))
  step : ∀ j w, j < 3 * n → Inv j w → Calls Yba.prog G #[.int .i8 (lg j), .pointer (some ⟨Bc, 0, none⟩)] w fun e w' => e = .returned (.float .f64 (ofI (lg j))) ∧ Inv (j + 1) w'

theorem Runs.lt {f A N n Bc G B lg Inv} (R : Runs f A N n Bc G B lg Inv) {k i : Nat} (hk : k < 2) (hi : i < N k) : Off N k + i < n := by
  have h := R.off
  have e : Off N 2 = 0 + N 0 + N 1 := rfl
  obtain rfl | rfl : k = 0 ∨ k = 1 := by omega
  · have e1 : Off N 0 = 0 := rfl
    omega
  · have e1 : Off N 1 = 0 + N 0 := rfl
    omega
theorem Runs.nk {f A N n Bc G B lg Inv} (R : Runs f A N n Bc G B lg Inv) {k : Nat} (hk : k < 2) : Off N k + N k ≤ n := by
  have h := R.off
  have e : Off N 2 = 0 + N 0 + N 1 := rfl
  obtain rfl | rfl : k = 0 ∨ k = 1 := by omega
  · have e1 : Off N 0 = 0 := rfl
    omega
  · have e1 : Off N 1 = 0 + N 0 := rfl
    omega

end Go.Proofs.Ybulkwby
