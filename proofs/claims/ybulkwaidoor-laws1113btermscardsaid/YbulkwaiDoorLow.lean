/- Signs of results, the negation, the reduction of a small argument. -/
import Derived.Test.YbulkwaiDoorTrig
import Derived.Test.YbulkwaiDoorPoly
import Derived.Laws.FloatArith
import Derived.Laws.Cover2
namespace Go.Proofs.YbulkwaiDoor
namespace Fl
open Ieee

theorem nearest_word (s : Bool) (m : Nat) (p : Int) : ∃ R, R ≤ double.infRung ∧ double.nearest s m p = double.word s R := by
  unfold Format.nearest
  by_cases h : m = 0
  · rw [if_pos h]; exact ⟨0, Nat.zero_le _, rfl⟩
  · rw [if_neg h]; exact ⟨_, Nat.min_le_right _ _, rfl⟩
theorem word_lt (s : Bool) (R : Nat) (h : R ≤ double.infRung) : double.word s R < 18446744073709551616 := by
  rw [ir] at h
  unfold Format.word
  rw [sw]
  cases s <;> simp <;> omega
theorem nearest_lt (s : Bool) (m : Nat) (p : Int) : double.nearest s m p < 18446744073709551616 := by
  obtain ⟨R, h, e⟩ := nearest_word s m p
  rw [e]; exact word_lt s R h
theorem read_sign {s t : Bool} {R m : Nat} {p : Int} (h : R ≤ double.infRung) (hr : double.read (double.word s R) = .number t m p) : t = s := by
  rw [read_word s R h] at hr
  by_cases h1 : R < double.binade
  · rw [if_pos h1] at hr; exact (Datum.number.inj hr).1.symm
  · rw [if_neg h1] at hr
    by_cases h2 : R < double.infRung
    · rw [if_pos h2] at hr; exact (Datum.number.inj hr).1.symm
    · rw [if_neg h2] at hr; exact absurd hr (by simp)
theorem nearest_sign {s t : Bool} {m m' : Nat} {p p' : Int} (hr : double.read (double.nearest s m p) = .number t m' p') : t = s := by
  obtain ⟨R, h, e⟩ := nearest_word s m p
  rw [e] at hr
  exact read_sign h hr
theorem mul_lt {x y r : Nat} (hx : Num x) (hy : Num y) (h : double.mul x y = some r) : r < 18446744073709551616 := by
  obtain ⟨s, m, p, h1⟩ := hx
  obtain ⟨t, n, q, k1⟩ := hy
  unfold Format.mul at h
  rw [h1, k1] at h
  rw [← Option.some.inj h]
  exact nearest_lt _ _ _
theorem add_lt {x y r : Nat} (hx : Num x) (hy : Num y) (h : double.add x y = some r) : r < 18446744073709551616 := by
  obtain ⟨s, m, p, h1⟩ := hx
  obtain ⟨t, n, q, k1⟩ := hy
  unfold Format.add at h
  rw [h1, k1] at h
  rw [← Option.some.inj h]
  exact nearest_lt _ _ _

/-- The sign is turned. -/
def Neg (x : Nat) : Nat := Op.negFloat .f64 x
theorem neg_eq (x : Nat) (hx : x < 18446744073709551616) : Neg x = if x < 9223372036854775808 then x + 9223372036854775808 else x - 9223372036854775808 := by
  have h0 : Neg x = x ^^^ 2 ^ 63 := rfl
  rw [h0]
  by_cases h : x < 9223372036854775808
  · rw [if_pos h]
    have h2 := nat_join 63 (2 ^ 63) x (by decide) (by omega)
    have h3 : x &&& 2 ^ 63 = 0 := by rw [nat_bit, Nat.div_eq_of_lt (by omega)]
    have : x ^^^ 2 ^ 63 = x ||| 2 ^ 63 := by
      refine Nat.eq_of_testBit_eq fun i => ?_
      have h4 := congrArg (fun n => n.testBit i) h3
      simp only [Nat.testBit_and, Nat.zero_testBit] at h4
      rw [Nat.testBit_xor, Nat.testBit_or]
      generalize Nat.testBit (2 ^ 63) i = b at *
      generalize Nat.testBit x i = a at *
      revert h4
      cases a <;> cases b <;> decide
    rw [this, Nat.or_comm, h2]
    omega
  · rw [if_neg h]
    have hy : x - 9223372036854775808 < 9223372036854775808 := by omega
    obtain ⟨y, rfl⟩ : ∃ y, x = 2 ^ 63 + y := ⟨x - 9223372036854775808, by omega⟩
    have h5 : y < 2 ^ 63 := by omega
    have h2 := nat_join 63 (2 ^ 63) y (by decide) h5
    have h3 : y &&& 2 ^ 63 = 0 := by rw [nat_bit, Nat.div_eq_of_lt h5]
    rw [← h2]
    have : (2 ^ 63 ||| y) ^^^ 2 ^ 63 = y := by
      refine Nat.eq_of_testBit_eq fun i => ?_
      have h4 := congrArg (fun n => n.testBit i) h3
      simp only [Nat.testBit_and, Nat.zero_testBit] at h4
      rw [Nat.testBit_xor, Nat.testBit_or]
      generalize Nat.testBit (2 ^ 63) i = b at *
      generalize Nat.testBit y i = a at *
      revert h4
      cases a <;> cases b <;> decide
    rw [this, h2]
    omega
theorem neg_lt (x : Nat) (hx : x < 18446744073709551616) : Neg x < 18446744073709551616 := by
  rw [neg_eq x hx]; split <;> omega
theorem neg_word (x : Nat) (hx : x < 18446744073709551616) : Neg x = double.word (!decide (9223372036854775808 ≤ x)) (mag x) := by
  rw [neg_eq x hx]
  unfold Format.word mag
  rw [sw]
  by_cases h : x < 9223372036854775808
  · rw [if_pos h, show decide (9223372036854775808 ≤ x) = false by simpa using h, if_pos (by decide)]; omega
  · rw [if_neg h, show decide (9223372036854775808 ≤ x) = true by simpa using h, if_neg (by decide)]; omega
theorem mag_le {e x : Nat} (h : Bd e x) : mag x ≤ 9218868437227405312 := by
  refine Nat.le_of_not_lt fun hlt => ?_
  obtain ⟨s, t, ht⟩ := read_nan x hlt
  obtain ⟨s, m, p, h1, _⟩ := h
  rw [h1] at ht
  exact absurd ht (by simp)
theorem neg_bd {e x : Nat} (hx : x < 18446744073709551616) (h : Bd e x) : Bd e (Neg x) := by
  have hw := word_of x hx
  have hm := mag_le h
  rw [neg_word x hx]
  obtain ⟨s, m, p, h1, h2, h3⟩ := h
  refine ⟨!decide (9223372036854775808 ≤ x), m, p, ?_, h2, h3⟩
  rw [hw, read_word _ _ (by rw [ir]; exact hm)] at h1
  rw [read_word _ _ (by rw [ir]; exact hm)]
  by_cases c1 : mag x < double.binade
  · rw [if_pos c1] at h1 ⊢
    obtain ⟨_, rfl, rfl⟩ := Datum.number.inj h1
    rfl
  · rw [if_neg c1] at h1 ⊢
    by_cases c2 : mag x < double.infRung
    · rw [if_pos c2] at h1 ⊢
      obtain ⟨_, rfl, rfl⟩ := Datum.number.inj h1
      rfl
    · rw [if_neg c2] at h1; exact absurd h1 (by simp)

theorem bd_fourOverPi : Bd 1 4608412980311869571 := bd_rung _ 1 (by decide) (by decide) (by decide)
theorem read_fourOverPi : ∃ n q, double.read 4608412980311869571 = .number false n q := by
  obtain ⟨m, p, h, _⟩ := read_fin 4608412980311869571 (by decide) (by decide)
  exact ⟨m, p, h⟩
set_option exponentiation.threshold 2000 in
/-- The whole part of a small argument over a quarter of pi. -/
theorem whole {x m : Nat} {p : Int} (hx : double.read x = .number false m p) (hp : -1074 ≤ p) (h : double.order x 4737786807993761792 = some .lt) :
    ∃ u n : Nat, double.mul x 4608412980311869571 = some u ∧ n ≤ 1073741824 ∧ floatToIntVal .f64 u .u64 = some (n : Int) ∧ Bd 30 (floatOfInt .f64 n) := by
  have hb := lt_bd hx hp h
  obtain ⟨u, hu, bu⟩ := mul_bd hb bd_fourOverPi (by decide)
  obtain ⟨n', q', hn'⟩ := read_fourOverPi
  have hsign : ∀ t k r, double.read u = .number t k r → t = false := by
    intro t k r hr
    unfold Format.mul at hu
    rw [hx, hn'] at hu
    rw [← Option.some.inj hu] at hr
    exact nearest_sign hr
  obtain ⟨s, k, r, k1, k2, k3⟩ := bu
  obtain rfl := hsign s k r k1
  obtain ⟨n, hn, hle⟩ := toInt_bd k1 k2 k3
  have hle' : n ≤ 1073741824 := hle
  refine ⟨u, n, hu, hle', ?_, ?_⟩
  · unfold floatToIntVal
    have : (FloatKind.f64.decode u).toInt .zero = some (n : Int) := hn
    rw [this]
    show (if _ then _ else _) = _
    rw [if_pos]
    have e1 : IntKind.u64.min = 0 := by decide
    have e2 : IntKind.u64.max = 18446744073709551615 := by decide
    rw [e1, e2]
    omega
  · show Bd 30 (double.nearest (decide ((n : Int) < 0)) (n : Int).natAbs 0)
    rw [Int.natAbs_natCast]
    refine nearest_bd _ n 0 1074 0 30 (by decide) (by decide) ?_
    rw [Nat.add_zero, Nat.pow_add]
    exact Nat.mul_le_mul_right _ hle
/-- What is left of a small argument. -/
structure Rest (x y a1 b1 a2 b2 a3 z : Nat) : Prop where
  e1 : double.mul y 4605249456957292544 = some a1
  f1 : double.sub x a1 = some b1
  e2 : double.mul y 4495793288086814720 = some a2
  f2 : double.sub b1 a2 = some b2
  e3 : double.mul y 4388835458085048688 = some a3
  f3 : double.sub b2 a3 = some z
  bd : Bd 34 z
theorem rest {x y : Nat} (hx : Bd 29 x) (hy : Bd 31 y) : ∃ a1 b1 a2 b2 a3 z, Rest x y a1 b1 a2 b2 a3 z := by
  obtain ⟨a1, e1, c1⟩ := mul_bd hy (show Bd 0 4605249456957292544 from bd_rung _ 0 (by decide) (by decide) (by decide)) (by decide)
  obtain ⟨b1, f1, d1⟩ := sub_bd hx c1 (by decide)
  obtain ⟨a2, e2, c2⟩ := mul_bd hy (show Bd 0 4495793288086814720 from bd_rung _ 0 (by decide) (by decide) (by decide)) (by decide)
  obtain ⟨b2, f2, d2⟩ := sub_bd d1 c2 (by decide)
  obtain ⟨a3, e3, c3⟩ := mul_bd hy (show Bd 0 4388835458085048688 from bd_rung _ 0 (by decide) (by decide) (by decide)) (by decide)
  obtain ⟨z, f3, d3⟩ := sub_bd d2 c3 (by decide)
  exact ⟨a1, b1, a2, b2, a3, z, e1, f1, e2, f2, e3, f3, d3.mono (by decide)⟩
end Fl
end Go.Proofs.YbulkwaiDoor
