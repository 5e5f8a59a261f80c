/- Comparisons and bounds. -/
import Derived.Test.YbulkwaiDoorWords
namespace Go.Proofs.YbulkwaiDoor
namespace Fl
open Ieee

theorem signed_false (m u : Nat) : signed false m u = ((m * 2 ^ u : Nat) : Int) := by
  unfold signed; rw [if_neg (by decide), Nat.shiftLeft_eq]
theorem scale_eq (m : Nat) {p b : Int} (hb : -1074 ≤ b) (hp : b ≤ p) : m * 2 ^ (p - b).toNat * 2 ^ (b + 1074).toNat = m * 2 ^ (p + 1074).toNat := by
  rw [Nat.mul_assoc, ← Nat.pow_add, show (p - b).toNat + (b + 1074).toNat = (p + 1074).toNat by omega]
/-- How two numbers that are not negative stand to each other. -/
theorem order_V {x y m n : Nat} {p q : Int} (hx : double.read x = .number false m p) (hp : -1074 ≤ p) (hy : double.read y = .number false n q) (hq : -1074 ≤ q) :
    double.order x y = some (compare (m * 2 ^ (p + 1074).toNat) (n * 2 ^ (q + 1074).toNat)) := by
  unfold Format.order
  rw [hx, hy]
  simp only [Datum.order, Option.some.injEq]
  rw [signed_false, signed_false, ← scale_eq m (b := min p q) (by omega) (by omega), ← scale_eq n (b := min p q) (by omega) (by omega)]
  obtain ⟨a, ha⟩ : ∃ a, a = m * 2 ^ (p - min p q).toNat := ⟨_, rfl⟩
  obtain ⟨b, hb⟩ : ∃ b, b = n * 2 ^ (q - min p q).toNat := ⟨_, rfl⟩
  obtain ⟨k, hk⟩ : ∃ k, k = 2 ^ (min p q + 1074).toNat := ⟨_, rfl⟩
  have kp : 0 < k := by rw [hk]; exact Nat.two_pow_pos _
  rw [← ha, ← hb, ← hk]
  rcases Nat.lt_trichotomy a b with h | h | h
  · rw [Nat.compare_eq_lt.2 (Nat.mul_lt_mul_of_pos_right h kp), Int.compare_eq_lt.2 (by omega)]
  · subst h; simp
  · rw [Nat.compare_eq_gt.2 (Nat.mul_lt_mul_of_pos_right h kp), Int.compare_eq_gt.2 (by omega)]

theorem read_c29 : double.read 4737786807993761792 = .number false 4503599627370496 (-23) := by decide +kernel
set_option exponentiation.threshold 2000 in
/-- Below 2 ^ 29. -/
theorem lt_bd {x m : Nat} {p : Int} (hx : double.read x = .number false m p) (hp : -1074 ≤ p) (h : double.order x 4737786807993761792 = some .lt) : Bd 29 x := by
  rw [order_V hx hp read_c29 (by decide)] at h
  have h' := Nat.compare_eq_lt.1 (Option.some.inj h)
  refine ⟨false, m, p, hx, hp, ?_⟩
  rw [show ((-23 : Int) + 1074).toNat = 1051 by decide, two52, ← Nat.pow_add] at h'
  exact Nat.le_of_lt h'

/-- A number of at most 2 ^ e, cut to a whole number, lies within 0 and 2 ^ e (where it is not negative). -/
theorem toInt_bd {e x m : Nat} {p : Int} (hx : double.read x = .number false m p) (hp : -1074 ≤ p) (h : m * 2 ^ (p + 1074).toNat ≤ 2 ^ (e + 1074)) :
    ∃ n : Nat, (double.read x).toInt .zero = some (n : Int) ∧ n ≤ 2 ^ e := by
  rw [hx]
  refine ⟨Toward.zero.cut false (m <<< p.toNat) (-p).toNat, ?_, ?_⟩
  · simp [Datum.toInt, Datum.integral, signed_false]
  · unfold Toward.cut
    dsimp only
    rw [Nat.one_shiftLeft]
    simp only [Bool.toNat_false, Nat.add_zero]
    obtain ⟨g, hg⟩ : ∃ g, g = min (-p).toNat ((m <<< p.toNat).log2 + 2) := ⟨_, rfl⟩
    rw [← hg]
    by_cases h1 : (-p).toNat ≤ (m <<< p.toNat).log2 + 2
    · have hgd : g = (-p).toNat := by omega
      rw [hgd, Nat.shiftLeft_eq]
      refine Nat.div_le_of_le_mul ?_
      have h2 : m * 2 ^ p.toNat * 2 ^ (1074 - (-p).toNat) ≤ 2 ^ (-p).toNat * 2 ^ e * 2 ^ (1074 - (-p).toNat) := by
        rw [Nat.mul_assoc, ← Nat.pow_add, ← Nat.pow_add, ← Nat.pow_add, show p.toNat + (1074 - (-p).toNat) = (p + 1074).toNat by omega, show (-p).toNat + e + (1074 - (-p).toNat) = e + 1074 by omega]
        exact h
      exact Nat.le_of_mul_le_mul_right h2 (Nat.two_pow_pos _)
    · have hgd : g = (m <<< p.toNat).log2 + 2 := by omega
      rw [hgd]
      have h2 : m <<< p.toNat < 2 ^ ((m <<< p.toNat).log2 + 1) := Nat.lt_log2_self
      have h3 : 2 ^ ((m <<< p.toNat).log2 + 1) ≤ 2 ^ ((m <<< p.toNat).log2 + 2) := pow_le (by omega)
      rw [Nat.div_eq_of_lt (by omega)]
      exact Nat.zero_le _
end Fl
end Go.Proofs.YbulkwaiDoor
