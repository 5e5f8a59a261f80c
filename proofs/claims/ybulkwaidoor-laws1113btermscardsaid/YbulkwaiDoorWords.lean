/- Words, signs and bounds. -/
import Derived.Test.YbulkwaiDoorOps
namespace Go.Proofs.YbulkwaiDoor
namespace Fl
open Ieee

/-- The sign's weight is taken off. -/
def mag (x : Nat) : Nat := x % 9223372036854775808
theorem word_of (x : Nat) (hx : x < 18446744073709551616) : x = double.word (decide (9223372036854775808 ≤ x)) (mag x) := by
  unfold Format.word mag
  rw [sw]
  by_cases h : 9223372036854775808 ≤ x
  · rw [if_pos (by simpa using h)]; omega
  · rw [if_neg (by simpa using h)]; omega
theorem bd_rung (x e : Nat) (hx : x < 18446744073709551616) (he : e ≤ 1022) (h : mag x ≤ (e + 1023) * 4503599627370496) : Bd e x := by
  rw [word_of x hx]; exact bd_word _ _ e he h
/-- What a finite word reads as. -/
theorem read_fin (x : Nat) (hx : x < 18446744073709551616) (h : mag x < 9218868437227405312) : ∃ m p, double.read x = .number (decide (9223372036854775808 ≤ x)) m p ∧ -1074 ≤ p := by
  have := read_word (decide (9223372036854775808 ≤ x)) (mag x) (by rw [ir]; exact Nat.le_of_lt h)
  rw [← word_of x hx, bn, ir, lp] at this
  by_cases h1 : mag x < 4503599627370496
  · rw [if_pos h1] at this; exact ⟨_, _, this, by omega⟩
  · rw [if_neg h1, if_pos h] at this; exact ⟨_, _, this, by omega⟩
theorem read_inf (x : Nat) (hx : x < 18446744073709551616) (h : mag x = 9218868437227405312) : double.read x = .infinity (decide (9223372036854775808 ≤ x)) := by
  have := read_word (decide (9223372036854775808 ≤ x)) (mag x) (by rw [ir]; exact Nat.le_of_eq h)
  rw [← word_of x hx, bn, ir, h] at this
  rw [this]; rfl
theorem read_nan (x : Nat) (h : 9218868437227405312 < mag x) : ∃ s t, double.read x = .nan s t := by
  unfold mag at h
  unfold Format.read
  dsimp only
  rw [sw, bn, ir, if_neg (by omega), if_neg (by omega), if_neg (by omega)]
  exact ⟨_, _, rfl⟩
end Fl
end Go.Proofs.YbulkwaiDoor
