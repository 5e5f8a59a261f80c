/- The small functions of the law: near, Max; and the signs of its numbers. -/
import Derived.Test.YbulkwaiDoorCall
namespace Go.Proofs.YbulkwaiDoor
namespace Fl
open Ieee

/-- A number without the sign. -/
def Pos (x : Nat) : Prop := ∃ m p, double.read x = .number false m p ∧ -1074 ≤ p
theorem pos_of {e m : Nat} {p : Int} (hb : Bd e (double.nearest false m p)) : Pos (double.nearest false m p) := by
  obtain ⟨s, m', p', h1, h2, _⟩ := hb
  obtain rfl := nearest_sign h1
  exact ⟨m', p', h1, h2⟩
theorem mul_pos {e x y r : Nat} (hx : Pos x) (hy : Pos y) (h : double.mul x y = some r) (hb : Bd e r) : Pos r := by
  obtain ⟨m, p, h1, _⟩ := hx
  obtain ⟨n, q, k1, _⟩ := hy
  unfold Format.mul at h
  rw [h1, k1] at h
  obtain rfl := Option.some.inj h
  exact pos_of hb
theorem div_pos {e x y r : Nat} (hx : Pos x) (hy : Big y) (h : double.div x y = some r) (hb : Bd e r) : Pos r := by
  obtain ⟨m, p, h1, _⟩ := hx
  obtain ⟨n, q, k1, kn, _⟩ := hy
  unfold Format.div at h
  rw [h1, k1] at h
  simp only [Datum.quotient, if_neg kn] at h
  obtain rfl := Option.some.inj h
  exact pos_of hb
theorem add_pos {e x y r : Nat} (hx : Pos x) (hy : Pos y) (h : double.add x y = some r) (hb : Bd e r) : Pos r := by
  obtain ⟨m, p, h1, _⟩ := hx
  obtain ⟨n, q, k1, _⟩ := hy
  unfold Format.add at h
  rw [h1, k1] at h
  have hs : (if signed false m (p - min p q).toNat + signed false n (q - min p q).toNat = 0 then false && false else decide (signed false m (p - min p q).toNat + signed false n (q - min p q).toNat < 0)) = false := by
    rw [signed_false, signed_false]
    split
    · rfl
    · simp only [decide_eq_false_iff_not]; omega
  simp only [Datum.sum, hs] at h
  obtain rfl := Option.some.inj h
  exact pos_of hb
theorem pos_mag {x : Nat} (hl : mag x < 9218868437227405312) : Pos (mag x) := by
  obtain ⟨m, p, hr, hp⟩ := read_fin (mag x) (by omega) (by rw [show mag (mag x) = mag x from Nat.mod_eq_of_lt (by omega)]; exact hl)
  rw [show decide (9223372036854775808 ≤ mag x) = false by simp; omega] at hr
  exact ⟨m, p, hr, hp⟩
theorem bd_mag {e x : Nat} (hx : x < 18446744073709551616) (h : Bd e x) : Bd e (mag x) ∧ Pos (mag x) := by
  have hm := mag_le h
  have hl : mag x < 9218868437227405312 := by
    refine Nat.lt_of_le_of_ne hm fun he => ?_
    have := read_inf x hx he
    obtain ⟨s, m, p, h1, _⟩ := h
    rw [h1] at this
    exact absurd this (by simp)
  refine ⟨?_, pos_mag hl⟩
  by_cases hs : 9223372036854775808 ≤ x
  · have : Neg x = mag x := by rw [neg_eq x hx, if_neg (by omega)]; unfold mag; omega
    rw [← this]; exact neg_bd hx h
  · rw [show mag x = x from Nat.mod_eq_of_lt (by omega)]; exact h
theorem pos_rung (x : Nat) (hl : x < 9218868437227405312) : Pos x := by
  obtain ⟨m, p, hr, hp⟩ := read_fin x (by omega) (by rw [show mag x = x from Nat.mod_eq_of_lt (by omega)]; exact hl)
  rw [show decide (9223372036854775808 ≤ x) = false by simp; omega] at hr
  exact ⟨m, p, hr, hp⟩
theorem zero_le_pos {x : Nat} (h : Pos x) : ∃ o, FloatKind.f64.format.order 0 x = some o ∧ (o = .lt ∨ o = .eq) := by
  obtain ⟨m, p, h1, h2⟩ := h
  refine ⟨_, order_V (show double.read 0 = .number false 0 (-1074) by decide +kernel) (by decide) h1 h2, ?_⟩
  rw [Nat.zero_mul]
  rcases Nat.eq_zero_or_pos (m * 2 ^ (p + 1074).toNat) with h | h
  · rw [h]; exact .inr rfl
  · exact .inl (Nat.compare_eq_lt.2 h)
theorem sub_self {x : Nat} (hx : Num x) : double.sub x x = some 0 := by
  obtain ⟨s, m, p, e⟩ := hx
  unfold Format.sub
  rw [e]
  have e1 : signed s m (p - min p p).toNat + signed (!s) m (p - min p p).toNat = 0 := by
    unfold signed
    cases s <;> simp <;> omega
  simp only [Datum.opposite, Datum.sum, e1, Option.map_some, Option.some.injEq, if_true]
  cases s <;> rfl

/- The least divisor, 1.5e-12. -/
theorem read_K : double.read 4429962474313539354 = .number false 7427640235712282 (-92) := by decide +kernel
set_option exponentiation.threshold 2000 in
theorem big_V {d m : Nat} {p : Int} (h1 : double.read d = .number false m p) (h2 : -1074 ≤ p) (h3 : 7427640235712282 * 2 ^ ((-92 : Int) + 1074).toNat ≤ m * 2 ^ (p + 1074).toNat) : Big d := by
  have h4 : 2 ^ 1034 ≤ m * 2 ^ (p + 1074).toNat := by
    refine Nat.le_trans ?_ h3
    rw [show ((-92 : Int) + 1074).toNat = 982 by decide, show 1034 = 52 + 982 by decide, Nat.pow_add]
    exact Nat.mul_le_mul_right _ (by decide)
  refine ⟨m, p, h1, fun h0 => ?_, h2, h4⟩
  rw [h0, Nat.zero_mul] at h4
  exact absurd h4 (Nat.not_le.2 (Nat.two_pow_pos _))
theorem big_K : Big 4429962474313539354 := big_V read_K (by decide) (Nat.le_refl _)
set_option exponentiation.threshold 2000 in
/-- Equal numbers, equal words. -/
theorem word_K {d m : Nat} {p : Int} (hd : d < 18446744073709551616) (h1 : double.read d = .number false m p) (h3 : m * 2 ^ (p + 1074).toNat = 7427640235712282 * 2 ^ ((-92 : Int) + 1074).toNat) : d = 4429962474313539354 := by
  have hm : mag d ≤ double.infRung := by
    rw [ir]
    refine Nat.le_of_not_lt fun hlt => ?_
    obtain ⟨s, t, ht⟩ := read_nan d hlt
    rw [h1] at ht
    exact absurd ht (by simp)
  have hw := word_of d hd
  have hr := read_word (decide (9223372036854775808 ≤ d)) (mag d) hm
  have hs : decide (9223372036854775808 ≤ d) = false := by
    rw [hw] at h1
    exact (read_sign hm h1).symm
  have hlt : d < 9223372036854775808 := by simpa using hs
  have hmd : mag d = d := Nat.mod_eq_of_lt hlt
  rw [hs, hmd] at hr hw
  rw [← hw, bn, ir, lp, h1] at hr
  rw [show ((-92 : Int) + 1074).toNat = 982 by decide] at h3
  by_cases c1 : d < 4503599627370496
  · rw [if_pos c1] at hr
    obtain ⟨-, rfl, rfl⟩ := Datum.number.inj hr
    rw [show ((-1074 : Int) + 1074).toNat = 0 by decide, Nat.pow_zero, Nat.mul_one] at h3
    have : 7427640235712282 * 1 ≤ 7427640235712282 * 2 ^ 982 := Nat.mul_le_mul_left _ Nat.one_le_two_pow
    rw [← h3] at this
    omega
  · rw [if_neg c1] at hr
    by_cases c2 : d < 9218868437227405312
    · rw [if_pos c2] at hr
      obtain ⟨-, rfl, rfl⟩ := Datum.number.inj hr
      obtain ⟨q, hq⟩ : ∃ q, q = d / 4503599627370496 - 1 := ⟨_, rfl⟩
      obtain ⟨a, ha⟩ : ∃ a, a = 4503599627370496 + d % 4503599627370496 := ⟨_, rfl⟩
      rw [← ha, ← hq, show ((-1074 : Int) + (q : Int) + 1074).toNat = q by omega] at h3
      have ha1 : 2 ^ 52 ≤ a := by rw [← two52]; omega
      have ha2 : a < 2 ^ 53 := by rw [← two53]; omega
      have hqe : q = 982 := by
        rcases Nat.lt_trichotomy q 982 with h | h | h
        · have x1 : a * 2 ^ q < 2 ^ 53 * 2 ^ q := Nat.mul_lt_mul_of_pos_right ha2 (Nat.two_pow_pos _)
          have x2 : 2 ^ 53 * 2 ^ q ≤ 2 ^ 52 * 2 ^ 982 := by rw [← Nat.pow_add, ← Nat.pow_add]; exact pow_le (by omega)
          have x3 : 2 ^ 52 * 2 ^ 982 ≤ 7427640235712282 * 2 ^ 982 := Nat.mul_le_mul_right _ (by decide)
          rw [h3] at x1
          exact absurd (Nat.lt_of_lt_of_le x1 (Nat.le_trans x2 x3)) (Nat.lt_irrefl _)
        · exact h
        · have x1 : 7427640235712282 * 2 ^ 982 < 2 ^ 53 * 2 ^ 982 := Nat.mul_lt_mul_of_pos_right (by decide) (Nat.two_pow_pos _)
          have x2 : 2 ^ 53 * 2 ^ 982 ≤ 2 ^ 52 * 2 ^ q := by rw [← Nat.pow_add, ← Nat.pow_add]; exact pow_le (by omega)
          have x3 : 2 ^ 52 * 2 ^ q ≤ a * 2 ^ q := Nat.mul_le_mul_right _ ha1
          rw [← h3] at x1
          exact absurd (Nat.lt_of_lt_of_le x1 (Nat.le_trans x2 x3)) (Nat.lt_irrefl _)
      rw [hqe] at h3
      have hab := Nat.eq_of_mul_eq_mul_right (Nat.two_pow_pos 982) h3
      omega
    · rw [if_neg c2] at hr
      exact absurd hr (by simp)

/-- How a number stands to the least divisor; the greater of the two. -/
theorem max_K {e d : Nat} (hb : Bd e d) (hd : d < 18446744073709551616) : ∃ o M, FloatKind.f64.format.order d 4429962474313539354 = some o ∧ Big M ∧ (o = .lt ∧ M = 4429962474313539354 ∨ (o = .gt ∨ o = .eq) ∧ M = d) ∧ (if some o == some Ordering.gt then d else 4429962474313539354) = M := by
  obtain ⟨s, m, p, h1, h2, _⟩ := hb
  cases s with
  | true =>
    refine ⟨.lt, _, ?_, big_K, .inl ⟨rfl, rfl⟩, rfl⟩
    show double.order d 4429962474313539354 = _
    unfold Format.order
    rw [h1, read_K]
    simp only [Datum.order, Option.some.injEq]
    rw [signed_false]
    unfold signed
    rw [if_pos rfl]
    refine Int.compare_eq_lt.2 ?_
    have : 0 < 7427640235712282 * 2 ^ ((-92 : Int) - min p (-92)).toNat := Nat.mul_pos (by decide) (Nat.two_pow_pos _)
    generalize 7427640235712282 * 2 ^ ((-92 : Int) - min p (-92)).toNat = g at *
    generalize m <<< (p - min p (-92)).toNat = k at *
    omega
  | false =>
    have ho := order_V h1 h2 read_K (by decide)
    rcases Nat.lt_trichotomy (m * 2 ^ (p + 1074).toNat) (7427640235712282 * 2 ^ ((-92 : Int) + 1074).toNat) with h | h | h
    · rw [Nat.compare_eq_lt.2 h] at ho
      exact ⟨.lt, _, ho, big_K, .inl ⟨rfl, rfl⟩, rfl⟩
    · have hk := word_K hd h1 h
      rw [Nat.compare_eq_eq.2 h] at ho
      exact ⟨.eq, d, ho, by rw [hk]; exact big_K, .inr ⟨.inr rfl, rfl⟩, hk.symm⟩
    · rw [Nat.compare_eq_gt.2 h] at ho
      exact ⟨.gt, d, ho, big_V h1 h2 (Nat.le_of_lt h), .inr ⟨.inl rfl, rfl⟩, rfl⟩
end Fl
open Go.RowKit Fl

theorem call17 (args : Array Value) (w : World) : (callFunc 17 args).run Ybad.prog w = ((Extern.MathDim.pick "math.archMax" false .gt args).run Ybad.prog w).andThen fun v w' => .ok (.value v) w' :=
  run_callFunc_extern Ybad.func17 (by kernel_rfl) (by kernel_rfl) (by kernel_rfl) (by kernel_rfl) args w
def pickR (x y : Nat) : Nat :=
  let a := FloatKind.f64.decode x
  let b := FloatKind.f64.decode y
  if a == .infinity false || b == .infinity false then FloatKind.f64.encode (.infinity false)
  else if a.isNaN || b.isNaN then 0x7FF8000000000001
  else if a.isZero && b.isZero then (if a.neg == false then x else y)
  else if a.order b == some .gt then x else y
theorem pick_eq (x y : Nat) (w : World) : (Extern.MathDim.pick "math.archMax" false .gt #[.float .f64 x, .float .f64 y]).run Ybad.prog w = .ok (.float .f64 (pickR x y)) w := rfl
theorem pick_num {x y : Nat} {s t : Bool} {m n : Nat} {p q : Int} (hx : Ieee.double.read x = .number s m p) (hy : Ieee.double.read y = .number t n q) (hn : n ≠ 0) :
    pickR x y = if FloatKind.f64.format.order x y == some .gt then x else y := by
  have hx' : FloatKind.f64.decode x = .number s m p := hx
  have hy' : FloatKind.f64.decode y = .number t n q := hy
  have ho : FloatKind.f64.format.order x y = (Ieee.Datum.number s m p).order (.number t n q) := by
    show Ieee.double.order x y = _
    unfold Ieee.Format.order; rw [hx, hy]
  rw [ho]
  unfold pickR
  rw [hx', hy']
  have e1 : (Ieee.Datum.number s m p == .infinity false) = false := by rfl
  have e2 : (Ieee.Datum.number t n q == .infinity false) = false := by rfl
  have e3 : (Ieee.Datum.number t n q).isZero = false := by simp [Ieee.Datum.isZero, hn]
  simp [e1, e2, e3, Ieee.Datum.isNaN]
theorem pick_nan {x y : Nat} (hx : Nan x) {t : Bool} {n : Nat} {q : Int} (hy : Ieee.double.read y = .number t n q) : pickR x y = 9221120237041090561 := by
  obtain ⟨s, f, hx⟩ := hx
  have hx' : FloatKind.f64.decode x = .nan s f := hx
  have hy' : FloatKind.f64.decode y = .number t n q := hy
  unfold pickR
  rw [hx', hy']
  have e1 : (Ieee.Datum.nan s f == .infinity false) = false := by rfl
  have e2 : (Ieee.Datum.number t n q == .infinity false) = false := by rfl
  simp [e1, e2, Ieee.Datum.isNaN]
set_option maxHeartbeats 400000 in
theorem max_any (x y : Nat) (w : World) : Calls Ybad.prog 10 #[.float .f64 x, .float .f64 y] w fun e w' => e = .returned (.float .f64 (pickR x y)) ∧ w' = w := by
  have h1 := call17
  have h2 := pick_eq
  go_enter Ybad.func10, Ybad.ntmps10
  go_wp2
  go_ret
  exact ⟨rfl, rfl⟩
set_option maxHeartbeats 400000 in
theorem near_self {a t : Nat} {o : Ordering} (ha : Num a) (ht : FloatKind.f64.format.order 0 t = some o) (ho : o = .lt ∨ o = .eq) (w : World) :
    Calls Ybad.prog 8 #[.float .f64 a, .float .f64 a, .float .f64 t] w fun e w' => e = .returned (.bool true) ∧ w' = w := by
  have h1 := r_sub (sub_self ha)
  have C := hide (abs_any 0 (by decide))
  have hm : mag 0 = 0 := rfl
  rw [hm] at C
  clear ha hm
  rcases ho with rfl | rfl
  all_goals
    go_enter Ybad.func8, Ybad.ntmps8
    go_wp2_with fail
    refine (C.out _).mono ?_
    rintro e w1 ⟨rfl, rfl⟩
    go_wp2_with fail
    go_ret
    exact ⟨rfl, rfl⟩
end Go.Proofs.YbulkwaiDoor
