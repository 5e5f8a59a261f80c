/- Cos and Sin at every word. -/
import Derived.Test.YbulkwaiDoorSin
import Derived.Test.YbulkwaiDoorSin2
namespace Go.Proofs.YbulkwaiDoor
open Go.RowKit Fl

theorem read_max : Ieee.double.read 9218868437227405311 = .number false 9007199254740991 971 := by decide +kernel
set_option exponentiation.threshold 4000 in
/-- No finite word is beyond the greatest. -/
theorem not_inf {X : Nat} (h : X < 9218868437227405312) : ∃ o, FloatKind.f64.format.order X 9218868437227405311 = some o ∧ (some o == some Ordering.gt) = false := by
  have hm : mag X = X := Nat.mod_eq_of_lt (by omega)
  have hs : decide (9223372036854775808 ≤ X) = false := by simp; omega
  have hw := word_of X (by omega)
  rw [hs, hm] at hw
  have hr := read_word false X (by rw [ir]; omega)
  rw [← hw, bn, ir, lp] at hr
  have key : ∃ m p, Ieee.double.read X = .number false m p ∧ -1074 ≤ p ∧ m * 2 ^ (p + 1074).toNat ≤ 9007199254740991 * 2 ^ ((971 : Int) + 1074).toNat := by
    by_cases h1 : X < 4503599627370496
    · rw [if_pos h1] at hr
      refine ⟨_, _, hr, by omega, ?_⟩
      rw [show ((-1074 : Int) + 1074).toNat = 0 by decide, show ((971 : Int) + 1074).toNat = 2045 by decide, Nat.pow_zero, Nat.mul_one]
      exact Nat.le_trans (show X ≤ 9007199254740991 * 1 by omega) (Nat.mul_le_mul_left _ (Nat.one_le_two_pow))
    · rw [if_neg h1, if_pos h] at hr
      refine ⟨_, _, hr, by omega, ?_⟩
      refine Nat.mul_le_mul (by omega) (pow_le ?_)
      omega
  obtain ⟨m, p, h1, h2, h3⟩ := key
  refine ⟨_, order_V h1 h2 read_max (by decide), ?_⟩
  have : compare (m * 2 ^ (p + 1074).toNat) (9007199254740991 * 2 ^ ((971 : Int) + 1074).toNat) ≠ .gt := fun hc => by
    have := Nat.compare_eq_gt.1 hc
    exact absurd h3 (Nat.not_le.2 this)
  revert this
  generalize compare (m * 2 ^ (p + 1074).toNat) (9007199254740991 * 2 ^ ((971 : Int) + 1074).toNat) = o
  cases o <;> simp

/-- Everything that a finite argument's size brings: the octant and the rest, and the road there. -/
theorem red_any (T : Nat → Nat) {X m : Nat} {p : Int} (hX : X < 9218868437227405312) (hr : Ieee.double.read X = .number false m p) (hp : -1074 ≤ p) :
    ∃ j z : Nat, (j = 0 ∨ j = 2 ∨ j = 4 ∨ j = 6) ∧ Bd 34 z ∧
      ((∃ u n a1 b1 a2 b2 a3, FloatKind.f64.format.order X 4737786807993761792 = some .lt ∧ Ieee.double.mul X 4608412980311869571 = some u ∧ floatToIntVal .f64 u .u64 = some ((n : Nat) : Int) ∧ bits .and .u64 (n : Int) 1 = 0 ∧ bits .and .u64 (n : Int) 7 = (j : Int) ∧ Fl.Rest X (floatOfInt .f64 n) a1 b1 a2 b2 a3 z) ∨
       (∃ u n N y a1 b1 a2 b2 a3, FloatKind.f64.format.order X 4737786807993761792 = some .lt ∧ Ieee.double.mul X 4608412980311869571 = some u ∧ floatToIntVal .f64 u .u64 = some ((n : Nat) : Int) ∧ bits .and .u64 (n : Int) 1 = 1 ∧ IntKind.u64.wrap ((n : Int) + 1) = ((N : Nat) : Int) ∧ Ieee.double.add (floatOfInt .f64 n) 4607182418800017408 = some y ∧ bits .and .u64 (N : Int) 7 = (j : Int) ∧ Fl.Rest X y a1 b1 a2 b2 a3 z) ∨
       (∃ og, FloatKind.f64.format.order X 4737786807993761792 = some og ∧ (og = .gt ∨ og = .eq) ∧ ∀ w, Tab T w → Calls Ybad.prog 21 #[.float .f64 X] w fun e w' => e = .returned (.tuple #[.int .u64 j, .float .f64 z]) ∧ ∃ n, w' = w.drewN n)) := by
  obtain ⟨o, ho⟩ : ∃ o, Ieee.double.order X 4737786807993761792 = some o := ⟨_, order_V hr hp read_c29 (by decide)⟩
  by_cases hlt : o = .lt
  · subst hlt
    obtain ⟨u, n, hu, hn, hi, hb⟩ := whole hr hp ho
    have b29 := lt_bd hr hp ho
    by_cases hpar : n % 2 = 1
    · obtain ⟨y, hy, by_⟩ := add_bd hb bd_one (by decide)
      obtain ⟨a1, b1, a2, b2, a3, z, R⟩ := rest b29 by_
      refine ⟨(n + 1) % 8, z, by omega, R.bd, .inr (.inl ⟨u, n, n + 1, y, a1, b1, a2, b2, a3, ho, hu, hi, ?_, ?_, hy, ?_, R⟩)⟩
      · have := u64_and_nat n 1 (by omega) (by decide)
        rw [nat_mask1, hpar] at this
        exact this
      · rw [← wrap_id (n + 1) (by omega)]; rfl
      · have := u64_and_nat (n + 1) 7 (by omega) (by decide)
        rw [nat_mask3] at this
        exact this
    · obtain ⟨a1, b1, a2, b2, a3, z, R⟩ := rest b29 (hb.mono (show 30 ≤ 31 by decide))
      refine ⟨n % 8, z, by omega, R.bd, .inl ⟨u, n, a1, b1, a2, b2, a3, ho, hu, hi, ?_, ?_, R⟩⟩
      · have := u64_and_nat n 1 (by omega) (by decide)
        rw [nat_mask1, show n % 2 = 0 by omega] at this
        exact this
      · have := u64_and_nat n 7 (by omega) (by decide)
        rw [nat_mask3] at this
        exact this
  · obtain ⟨j, z, hj, hz, ht⟩ := trig_any T X hX hr hp (by rw [ho]; simpa using hlt)
    refine ⟨j, z, hj, hz.mono (by decide), .inr (.inr ⟨o, ho, ?_, ht⟩)⟩
    revert hlt
    cases o <;> simp

theorem cos_fin (T : Nat → Nat) (x : Nat) (hx : x < 18446744073709551616) (hf : mag x < 9218868437227405312) :
    ∃ c, c < 18446744073709551616 ∧ Bd 482 c ∧ ∀ w, Lai T w → Calls Ybad.prog 12 #[.float .f64 x] w fun e w' => e = .returned (.float .f64 c) ∧ ∃ n, w' = w.drewN n := by
  obtain ⟨mx, px, hrx, _⟩ := read_fin x hx hf
  have hnum : Num x := ⟨_, _, _, hrx⟩
  obtain ⟨X, hX⟩ : ∃ X, mag x = X := ⟨_, rfl⟩
  rw [hX] at hf
  obtain ⟨m, p, hr, hp⟩ := read_fin X (by omega) (by rw [show mag X = X from Nat.mod_eq_of_lt (by omega)]; exact hf)
  rw [show decide (9223372036854775808 ≤ X) = false by simp; omega] at hr
  obtain ⟨o, hoi, hne⟩ := not_inf hf
  rw [← hX] at hoi
  obtain ⟨j, z, hj, hz, hroad⟩ := red_any T hf hr hp
  obtain ⟨c, hc, bc, hat⟩ := cosAt hj hz
  refine ⟨c, hc, bc, fun w hw => ?_⟩
  rcases hroad with ⟨u, n, a1, b1, a2, b2, a3, q1, q2, q3, q4, q5, q6⟩ | ⟨u, n, N, y, a1, b1, a2, b2, a3, q1, q2, q3, q4, q5, q6, q7, q8⟩ | ⟨og, q1, q2, q3⟩
  · exact cos_even hx hnum hX hoi hne q1 q2 q3 q4 q5 q6 hat w hw
  · exact cos_odd hx hnum hX hoi hne q1 q2 q3 q4 q5 q6 q7 q8 hat w hw
  · exact cos_high hx hnum hX hoi hne q1 q2 hj q3 hat w hw

/-- How a number that is no zero stands to zero. -/
theorem order_zero {x : Nat} (hx : x < 18446744073709551616) (hf : mag x < 9218868437227405312) (h0 : mag x ≠ 0) : FloatKind.f64.format.order x 0 = some (if 9223372036854775808 ≤ x then .lt else .gt) := by
  have hr := read_word (decide (9223372036854775808 ≤ x)) (mag x) (by rw [ir]; omega)
  rw [← word_of x hx, bn, ir, lp] at hr
  have key : ∃ m p, Ieee.double.read x = .number (decide (9223372036854775808 ≤ x)) m p ∧ m ≠ 0 := by
    by_cases h1 : mag x < 4503599627370496
    · rw [if_pos h1] at hr
      exact ⟨_, _, hr, h0⟩
    · rw [if_neg h1, if_pos hf] at hr
      exact ⟨_, _, hr, by omega⟩
  obtain ⟨m, p, h1, h2⟩ := key
  show Ieee.double.order x 0 = _
  unfold Ieee.Format.order
  rw [h1, show Ieee.double.read 0 = .number false 0 (-1074) by decide +kernel]
  simp only [Ieee.Datum.order, Option.some.injEq]
  have hz : ∀ u, Ieee.signed false 0 u = 0 := fun u => by rw [signed_false, Nat.zero_mul]; rfl
  rw [hz]
  obtain ⟨u, hu⟩ : ∃ u, u = (p - min p (-1074)).toNat := ⟨_, rfl⟩
  rw [← hu]
  have hpos : 0 < m * 2 ^ u := Nat.mul_pos (by omega) (Nat.two_pow_pos _)
  by_cases hs : 9223372036854775808 ≤ x
  · rw [if_pos hs, show decide (9223372036854775808 ≤ x) = true by simpa using hs]
    unfold Ieee.signed
    rw [if_pos rfl, Nat.shiftLeft_eq]
    exact Int.compare_eq_lt.2 (by omega)
  · rw [if_neg hs, show decide (9223372036854775808 ≤ x) = false by simpa using hs, signed_false]
    exact Int.compare_eq_gt.2 (by omega)

set_option maxHeartbeats 1000000 in
theorem sin_eq {x : Nat} (h0 : FloatKind.f64.format.order x 0 = some .eq) (w : World) :
    Calls Ybad.prog 14 #[.float .f64 x] w fun e w' => e = .returned (.float .f64 x) ∧ w' = w := by
  go_enter Ybad.func14, Ybad.ntmps14
  go_wp2_with fail
  go_ret
  exact ⟨rfl, rfl⟩

theorem sin_fin (T : Nat → Nat) (x : Nat) (hx : x < 18446744073709551616) (hf : mag x < 9218868437227405312) :
    ∃ c, c < 18446744073709551616 ∧ Bd 482 c ∧ ∀ w, Lai T w → Calls Ybad.prog 14 #[.float .f64 x] w fun e w' => e = .returned (.float .f64 c) ∧ ∃ n, w' = w.drewN n := by
  by_cases h0 : mag x = 0
  · refine ⟨x, hx, bd_rung x 482 hx (by decide) (by omega), fun w _ => ?_⟩
    have ho : FloatKind.f64.format.order x 0 = some .eq := by
      have : x = 0 ∨ x = 9223372036854775808 := by unfold mag at h0; omega
      rcases this with rfl | rfl
      · decide +kernel
      · decide +kernel
    refine (sin_eq ho w).mono ?_
    rintro e w' ⟨rfl, rfl⟩
    exact ⟨rfl, 0, rfl⟩
  · obtain ⟨mx, px, hrx, _⟩ := read_fin x hx hf
    have hnum : Num x := ⟨_, _, _, hrx⟩
    have hord := order_zero hx hf h0
    obtain ⟨X, hX⟩ : ∃ X, mag x = X := ⟨_, rfl⟩
    rw [hX] at hf
    obtain ⟨m, p, hr, hp⟩ := read_fin X (by omega) (by rw [show mag X = X from Nat.mod_eq_of_lt (by omega)]; exact hf)
    rw [show decide (9223372036854775808 ≤ X) = false by simp; omega] at hr
    obtain ⟨o, hoi, hne⟩ := not_inf hf
    rw [← hX] at hoi
    obtain ⟨j, z, hj, hz, hroad⟩ := red_any T hf hr hp
    by_cases hs : 9223372036854775808 ≤ x
    · rw [if_pos hs] at hord
      have hN : Neg x = X := by rw [neg_eq x hx, if_neg (by omega), ← hX]; unfold mag; omega
      obtain ⟨c, hc, bc, hat⟩ := sinAt true hj hz
      refine ⟨c, hc, bc, fun w hw => ?_⟩
      rcases hroad with ⟨u, n, a1, b1, a2, b2, a3, q1, q2, q3, q4, q5, q6⟩ | ⟨u, n, N, y, a1, b1, a2, b2, a3, q1, q2, q3, q4, q5, q6, q7, q8⟩ | ⟨og, q1, q2, q3⟩
      · exact sin_neg_even hx hnum hord hN hoi hne q1 q2 q3 q4 q5 q6 hat w hw
      · exact sin_neg_odd hx hnum hord hN hoi hne q1 q2 q3 q4 q5 q6 q7 q8 hat w hw
      · exact sin_neg_high hx hnum hord hN hoi hne q1 q2 q3 hat w hw
    · rw [if_neg hs] at hord
      obtain rfl : x = X := by rw [← hX]; unfold mag; omega
      obtain ⟨c, hc, bc, hat⟩ := sinAt false hj hz
      refine ⟨c, hc, bc, fun w hw => ?_⟩
      rcases hroad with ⟨u, n, a1, b1, a2, b2, a3, q1, q2, q3, q4, q5, q6⟩ | ⟨u, n, N, y, a1, b1, a2, b2, a3, q1, q2, q3, q4, q5, q6, q7, q8⟩ | ⟨og, q1, q2, q3⟩
      · exact sin_pos_even hx hnum hord hoi hne q1 q2 q3 q4 q5 q6 hat w hw
      · exact sin_pos_odd hx hnum hord hoi hne q1 q2 q3 q4 q5 q6 q7 q8 hat w hw
      · exact sin_pos_high hx hnum hord hoi hne q1 q2 q3 hat w hw

/- Words that are no numbers. -/
theorem nan_nan : Nan 9221120237041090561 := read_nan _ (by decide)
set_option maxHeartbeats 1000000 in
theorem cos_bad {x : Nat} (hx : x < 18446744073709551616) (hf : ¬ mag x < 9218868437227405312) (w : World) :
    Calls Ybad.prog 12 #[.float .f64 x] w fun e w' => e = .returned (.float .f64 9221120237041090561) ∧ w' = w := by
  by_cases hi : mag x = 9218868437227405312
  · have C1 := hide (fun w => isNaN_inf (read_inf x hx hi) w)
    have C2 := hide (fun w => isInf_any hx (some .gt) (by rw [hi]; decide +kernel) w)
    clear hi hf
    go_enter Ybad.func12, Ybad.ntmps12
    go_wp2_with fail
    refine (C1.out _).mono ?_
    rintro e w1 ⟨rfl, rfl⟩
    go_wp2_with fail
    refine (C2.out _).mono ?_
    rintro e w1 ⟨rfl, rfl⟩
    go_wp2_with fail
    refine (nan_any _).mono ?_
    rintro e w1 ⟨rfl, rfl⟩
    go_wp2_with fail
    go_ret
    exact ⟨rfl, rfl⟩
  · have C1 := hide (fun w => isNaN_nan (x := x) (read_nan x (by omega)) w)
    clear hi hf
    go_enter Ybad.func12, Ybad.ntmps12
    go_wp2_with fail
    refine (C1.out _).mono ?_
    rintro e w1 ⟨rfl, rfl⟩
    go_wp2_with fail
    refine (nan_any _).mono ?_
    rintro e w1 ⟨rfl, rfl⟩
    go_wp2_with fail
    go_ret
    exact ⟨rfl, rfl⟩
set_option maxHeartbeats 1000000 in
theorem sin_bad {x : Nat} (hx : x < 18446744073709551616) (hf : ¬ mag x < 9218868437227405312) :
    ∃ s, Nan s ∧ ∀ w, Calls Ybad.prog 14 #[.float .f64 x] w fun e w' => e = .returned (.float .f64 s) ∧ w' = w := by
  by_cases hi : mag x = 9218868437227405312
  · refine ⟨_, nan_nan, fun w => ?_⟩
    have ho : ∃ o, FloatKind.f64.format.order x 0 = some o ∧ (o = .gt ∨ o = .lt) := by
      show ∃ o, Ieee.double.order x 0 = some o ∧ _
      unfold Ieee.Format.order
      rw [read_inf x hx hi, show Ieee.double.read 0 = .number false 0 (-1074) by decide +kernel]
      refine ⟨_, rfl, ?_⟩
      split
      · exact .inr rfl
      · exact .inl rfl
    obtain ⟨o, ho, hoo⟩ := ho
    have C1 := hide (fun w => isNaN_inf (read_inf x hx hi) w)
    have C2 := hide (fun w => isInf_any hx (some .gt) (by rw [hi]; decide +kernel) w)
    clear hi hf
    rcases hoo with rfl | rfl
    all_goals
      go_enter Ybad.func14, Ybad.ntmps14
      go_wp2_with fail
      refine (C1.out _).mono ?_
      rintro e w1 ⟨rfl, rfl⟩
      go_wp2_with fail
      refine (C2.out _).mono ?_
      rintro e w1 ⟨rfl, rfl⟩
      go_wp2_with fail
      refine (nan_any _).mono ?_
      rintro e w1 ⟨rfl, rfl⟩
      go_wp2_with fail
      go_ret
      exact ⟨rfl, rfl⟩
  · have hn : Nan x := read_nan x (by omega)
    refine ⟨x, hn, fun w => ?_⟩
    have C1 := hide (fun w => isNaN_nan hn w)
    have ho : FloatKind.f64.format.order x 0 = none := by
      obtain ⟨s, t, h⟩ := hn
      show Ieee.double.order x 0 = none
      unfold Ieee.Format.order; rw [h]; rfl
    clear hi hf hn
    go_enter Ybad.func14, Ybad.ntmps14
    go_wp2_with fail
    refine (C1.out _).mono ?_
    rintro e w1 ⟨rfl, rfl⟩
    go_wp2_with fail
    go_ret
    exact ⟨rfl, rfl⟩

/-- A contract of the inner function is one of the outer. -/
theorem cos_out {x c : Nat} {w : World} (h : Calls Ybad.prog 12 #[.float .f64 x] w fun e w' => e = .returned (.float .f64 c) ∧ ∃ n, w' = w.drewN n) :
    Calls Ybad.prog 5 #[.float .f64 x] w fun e w' => e = .returned (.float .f64 c) ∧ ∃ n, w' = w.drewN n := by
  have H := hide h
  clear h
  go_enter Ybad.func5, Ybad.ntmps5
  go_wp2_with fail
  refine H.out.mono ?_
  rintro e w1 ⟨rfl, n, rfl⟩
  go_wp2_with fail
  go_ret
  exact ⟨rfl, n, rfl⟩
theorem sin_out {x c : Nat} {w : World} (h : Calls Ybad.prog 14 #[.float .f64 x] w fun e w' => e = .returned (.float .f64 c) ∧ ∃ n, w' = w.drewN n) :
    Calls Ybad.prog 6 #[.float .f64 x] w fun e w' => e = .returned (.float .f64 c) ∧ ∃ n, w' = w.drewN n := by
  have H := hide h
  clear h
  go_enter Ybad.func6, Ybad.ntmps6
  go_wp2_with fail
  refine H.out.mono ?_
  rintro e w1 ⟨rfl, n, rfl⟩
  go_wp2_with fail
  go_ret
  exact ⟨rfl, n, rfl⟩

/-- Whichever the word: what Cos and Sin answer hangs on it alone; both are numbers, within bounds, or both are NaNs. -/
theorem both_any (T : Nat → Nat) (x : Nat) (hx : x < 18446744073709551616) : ∃ c s : Nat,
    ((c < 18446744073709551616 ∧ Bd 482 c ∧ s < 18446744073709551616 ∧ Bd 482 s) ∨ (Nan c ∧ Nan s)) ∧
    (∀ w, Lai T w → Calls Ybad.prog 5 #[.float .f64 x] w fun e w' => e = .returned (.float .f64 c) ∧ ∃ n, w' = w.drewN n) ∧
    (∀ w, Lai T w → Calls Ybad.prog 6 #[.float .f64 x] w fun e w' => e = .returned (.float .f64 s) ∧ ∃ n, w' = w.drewN n) := by
  by_cases hf : mag x < 9218868437227405312
  · obtain ⟨c, c1, c2, c3⟩ := cos_fin T x hx hf
    obtain ⟨s, s1, s2, s3⟩ := sin_fin T x hx hf
    exact ⟨c, s, .inl ⟨c1, c2, s1, s2⟩, fun w hw => cos_out (c3 w hw), fun w hw => sin_out (s3 w hw)⟩
  · obtain ⟨s, hs, hc⟩ := sin_bad hx hf
    refine ⟨_, s, .inr ⟨nan_nan, hs⟩, fun w _ => cos_out ((cos_bad hx hf w).mono ?_), fun w _ => sin_out ((hc w).mono ?_)⟩
    · rintro e w' ⟨rfl, rfl⟩
      exact ⟨rfl, 0, rfl⟩
    · rintro e w' ⟨rfl, rfl⟩
      exact ⟨rfl, 0, rfl⟩
end Go.Proofs.YbulkwaiDoor
