/- Words of 64 bits: what an operation leaves is a word. -/
import Derived.Test.YbulkwaiDoorBase
import Derived.Test.YbulkwaiDoorShelf
import Derived.Laws.Externs
namespace Go.Proofs.YbulkwaiDoor
open Go.RowKit Fl

theorem wrap_nat (a : Int) : ∃ Z : Nat, Z < 18446744073709551616 ∧ IntKind.u64.wrap a = (Z : Int) := by
  refine ⟨(a % 18446744073709551616).toNat, by omega, ?_⟩
  have : IntKind.u64.wrap a = a % 18446744073709551616 := by simp [IntKind.wrap, IntKind.bits, IntKind.signed]
  rw [this]; omega
theorem wrap_id (a : Nat) (h : a < 18446744073709551616) : IntKind.u64.wrap (a : Int) = (a : Int) := by
  have : IntKind.u64.wrap (a : Int) = (a : Int) % 18446744073709551616 := by simp [IntKind.wrap, IntKind.bits, IntKind.signed]
  rw [this]; omega
theorem bits_nat (o : BinOp) (a b : Int) : ∃ Z : Nat, Z < 18446744073709551616 ∧ bits o .u64 a b = (Z : Int) := wrap_nat _
theorem bitLen_le (x : Nat) : Lib.bitLen x ≤ 64 := by
  have h : ∀ f x, Lib.bitLenAux f x ≤ f := by
    intro f
    induction f with
    | zero => intro x; simp [Lib.bitLenAux]
    | succ f ih =>
      intro x
      unfold Lib.bitLenAux
      split
      · omega
      · have := ih (x / 2)
        omega
  exact h 64 x

theorem add64 (x y c : Nat) (hx : x < 18446744073709551616) (hy : y < 18446744073709551616) (hc : c ≤ 1) : ∃ s d : Nat, s < 18446744073709551616 ∧ d ≤ 1 ∧ ∀ w, (callFunc 25 #[.int .u64 x, .int .u64 y, .int .u64 c]).run Ybad.prog w =
    .ok (.value (.tuple #[.int .u64 s, .int .u64 d])) w := by
  refine ⟨(x + y + c) % 18446744073709551616, (x + y + c) / 18446744073709551616, by omega, by omega, fun w => ?_⟩
  rw [run_callFunc_extern Ybad.func25 (by kernel_rfl) (by kernel_rfl) (by kernel_rfl) (e := add64Entry) (by kernel_rfl), run_add64 x y c (by omega) (by omega) (by omega) (by omega)]
  simp only [Result.andThen]
  congr 5 <;> omega
theorem mul64 (x y : Nat) (hx : x < 18446744073709551616) (hy : y < 18446744073709551616) : ∃ a b : Nat, a < 18446744073709551616 ∧ b < 18446744073709551616 ∧ ∀ w,
    Calls Ybad.prog 24 #[.int .u64 x, .int .u64 y] w fun e w' => e = .returned (.tuple #[.int .u64 a, .int .u64 b]) ∧ w' = w := by
  refine ⟨_, _, ?_, ?_, fun w => Ybad.bits_Mul64 x y hx hy w⟩
  · have : x * y < 18446744073709551616 * 18446744073709551616 := Nat.mul_lt_mul'' hx hy
    omega
  · omega
theorem lead64 (x : Nat) (hx : x < 18446744073709551616) : ∃ a : Nat, a ≤ 64 ∧ ∀ w,
    Calls Ybad.prog 26 #[.int .u64 x] w fun e w' => e = .returned (.int .i64 a) ∧ w' = w := by
  refine ⟨64 - Lib.bitLen x, by omega, fun w => ?_⟩
  refine (Ybad.bits_LeadingZeros64 (x : Int) w (by omega) (by omega)).mono ?_
  rintro e w' ⟨rfl, rfl⟩
  have := bitLen_le x
  refine ⟨?_, rfl⟩
  rw [Int.toNat_natCast]
  congr 2
  omega
end Go.Proofs.YbulkwaiDoor
