/- The small functions of math at this dump. -/
import Derived.Test.YbulkwaiDoorWords
import Derived.Test.YbulkwaiDoorRows
import Derived.WalkKit
import Derived.WalkSpells
import Derived.ProofKit
import Derived.Below
import Derived.WalkLawsBesides
import Derived.Stop.CallBack
import Derived.Laws.BitsAllLaws
namespace Go.Proofs.YbulkwaiDoor
open Go.RowKit Fl

theorem hide {p : Prop} (h : p) : Hid p := h
theorem r_add {x y r : Nat} (h : Ieee.double.add x y = some r) (w : World) : (binOp .add 22 (.float .f64 x) (.float .f64 y)).run Ybad.prog w = .ok (.float .f64 r) w := run_float_arith (P := Ybad.prog) w .add 22 .f64 x y r h
theorem r_sub {x y r : Nat} (h : Ieee.double.sub x y = some r) (w : World) : (binOp .sub 22 (.float .f64 x) (.float .f64 y)).run Ybad.prog w = .ok (.float .f64 r) w := run_float_arith (P := Ybad.prog) w .sub 22 .f64 x y r h
theorem r_mul {x y r : Nat} (h : Ieee.double.mul x y = some r) (w : World) : (binOp .mul 22 (.float .f64 x) (.float .f64 y)).run Ybad.prog w = .ok (.float .f64 r) w := run_float_arith (P := Ybad.prog) w .mul 22 .f64 x y r h
theorem r_quo {x y r : Nat} (h : Ieee.double.div x y = some r) (w : World) : (binOp .quo 22 (.float .f64 x) (.float .f64 y)).run Ybad.prog w = .ok (.float .f64 r) w := run_float_arith (P := Ybad.prog) w .quo 22 .f64 x y r h

theorem call15 (args : Array Value) (w : World) : (callFunc 15 args).run Ybad.prog w = ((Extern.MathFloatBits.float64frombits args).run Ybad.prog w).andThen fun v w' => .ok (.value v) w' :=
  run_callFunc_extern Ybad.func15 (by kernel_rfl) (by kernel_rfl) (by kernel_rfl) (by kernel_rfl) args w
theorem call16 (args : Array Value) (w : World) : (callFunc 16 args).run Ybad.prog w = ((Extern.MathFloatBits.float64bits args).run Ybad.prog w).andThen fun v w' => .ok (.value v) w' :=
  run_callFunc_extern Ybad.func16 (by kernel_rfl) (by kernel_rfl) (by kernel_rfl) (by kernel_rfl) args w
theorem from_bits (n : Int) (w : World) : (Extern.MathFloatBits.float64frombits #[.int .u64 n]).run Ybad.prog w = .ok (.float .f64 n.toNat) w := rfl
theorem to_bits (b : Nat) (w : World) : (Extern.MathFloatBits.float64bits #[.float .f64 b]).run Ybad.prog w = .ok (.int .u64 b) w := rfl

theorem andNot_sign (x : Nat) (hx : x < 18446744073709551616) : bits .andNot .u64 (x : Int) 9223372036854775808 = (mag x : Int) := by
  have h := u64_andNot_nat x 9223372036854775808 hx (by decide)
  have e : x &&& (18446744073709551615 - 9223372036854775808) = mag x := by
    rw [show 18446744073709551615 - 9223372036854775808 = 2 ^ 63 - 1 by decide, Nat.and_two_pow_sub_one_eq_mod]; rfl
  rw [e] at h
  exact h
set_option maxHeartbeats 400000 in
theorem abs_any (x : Nat) (hx : x < 18446744073709551616) (w : World) :
    Calls Ybad.prog 9 #[.float .f64 x] w fun e w' => e = .returned (.float .f64 (mag x)) ∧ w' = w := by
  have h1 := call15
  have h2 := call16
  have h3 := from_bits
  have h4 := to_bits
  have h5 := andNot_sign x hx
  go_enter Ybad.func9, Ybad.ntmps9
  go_wp2
  go_ret
  exact ⟨by simp, rfl⟩

def Nan (x : Nat) : Prop := ∃ s t, Ieee.double.read x = .nan s t
def Num (x : Nat) : Prop := ∃ s m p, Ieee.double.read x = .number s m p
theorem Bd.num {e x : Nat} (h : Bd e x) : Num x := by obtain ⟨s, m, p, h, _⟩ := h; exact ⟨s, m, p, h⟩
theorem order_nan {x : Nat} (h : Nan x) : FloatKind.f64.format.order x x = none := by
  obtain ⟨s, t, h⟩ := h
  show Ieee.double.order x x = none
  unfold Ieee.Format.order; rw [h]; rfl
theorem order_num {x : Nat} (h : Num x) : FloatKind.f64.format.order x x = some .eq := by
  obtain ⟨s, m, p, h⟩ := h
  show Ieee.double.order x x = some .eq
  unfold Ieee.Format.order; rw [h]; simp [Ieee.Datum.order]

set_option maxHeartbeats 400000 in
theorem isNaN_nan {x : Nat} (h : Nan x) (w : World) : Calls Ybad.prog 7 #[.float .f64 x] w fun e w' => e = .returned (.bool true) ∧ w' = w := by
  have h1 := order_nan h
  clear h
  go_enter Ybad.func7, Ybad.ntmps7
  go_wp2
  go_ret
  exact ⟨rfl, rfl⟩
set_option maxHeartbeats 400000 in
theorem isNaN_num {x : Nat} (h : Num x) (w : World) : Calls Ybad.prog 7 #[.float .f64 x] w fun e w' => e = .returned (.bool false) ∧ w' = w := by
  have h1 := order_num h
  clear h
  go_enter Ybad.func7, Ybad.ntmps7
  go_wp2
  go_ret
  exact ⟨rfl, rfl⟩
set_option maxHeartbeats 400000 in
theorem isNaN_inf {x : Nat} {s : Bool} (h : Ieee.double.read x = .infinity s) (w : World) : Calls Ybad.prog 7 #[.float .f64 x] w fun e w' => e = .returned (.bool false) ∧ w' = w := by
  have h1 : FloatKind.f64.format.order x x = some .eq := by
    show Ieee.double.order x x = some .eq
    unfold Ieee.Format.order; rw [h]; cases s <;> rfl
  clear h
  go_enter Ybad.func7, Ybad.ntmps7
  go_wp2
  go_ret
  exact ⟨rfl, rfl⟩
set_option maxHeartbeats 400000 in
theorem nan_any (w : World) : Calls Ybad.prog 20 #[] w fun e w' => e = .returned (.float .f64 9221120237041090561) ∧ w' = w := by
  have h1 := call15
  have h2 := from_bits
  go_enter Ybad.func20, Ybad.ntmps20
  go_wp2
  go_ret
  exact ⟨rfl, rfl⟩
set_option maxHeartbeats 400000 in
/-- The order of an absolute value against the greatest number. -/
theorem isInf_any {x : Nat} (hx : x < 18446744073709551616) (o : Option Ordering) (ho : FloatKind.f64.format.order (mag x) 9218868437227405311 = o) (w : World) :
    Calls Ybad.prog 19 #[.float .f64 x, .int .i64 0] w fun e w' => e = .returned (.bool (o == some .gt)) ∧ w' = w := by
  go_enter Ybad.func19, Ybad.ntmps19
  go_wp2_with fail
  refine (abs_any x hx _).mono ?_
  rintro e w1 ⟨rfl, rfl⟩
  go_wp2_with fail
  go_ret
  exact ⟨by simp, rfl⟩
end Go.Proofs.YbulkwaiDoor
