/- Small integers are exact in the model's floats: no Go in sight. -/
import Derived.Test.YbulkwbyFloat
namespace Go.Proofs.Ybulkwby
namespace Fl
open Ieee

theorem log2_mul (m k : Nat) (h : m ≠ 0) : (m * 2 ^ k).log2 = m.log2 + k := by
  induction k with
  | zero => simp
  | succ k ih =>
    have e : m * 2 ^ (k + 1) = 2 * (m * 2 ^ k) := by rw [Nat.pow_succ]; ac_rfl
    have hne : m * 2 ^ k ≠ 0 := Nat.mul_ne_zero h (Nat.ne_of_gt (Nat.two_pow_pos k))
    rw [e, Nat.log2_two_mul hne, ih]; omega

theorem cut_exact (s : Bool) (a d : Nat) : Toward.even.cut s (a * 2 ^ d) d = a := by
  unfold Toward.cut
  dsimp only
  by_cases h : a = 0
  · subst h; simp
  · have hl : min d ((a * 2 ^ d).log2 + 2) = d := by rw [log2_mul a d h]; omega
    rw [hl, Nat.one_shiftLeft]
    have hp : 0 < 2 ^ d := Nat.two_pow_pos d
    rw [Nat.mul_div_cancel _ hp, Nat.mul_mod_left]
    have h1 : decide (2 ^ d < 2 * 0) = false := by simp
    have h2 : (2 ^ d == 2 * 0) = false := by simp
    rw [h1, h2]; simp
theorem cut_zero (s : Bool) (n : Nat) : Toward.even.cut s n 0 = n := by
  have := cut_exact s n 0
  simpa using this
theorem cut_scale (s : Bool) (n d k : Nat) : Toward.even.cut s (n * 2 ^ k) (d + k) = Toward.even.cut s n d := by
  unfold Toward.cut
  dsimp only
  by_cases h : n = 0
  · subst h; simp
  · have hl : min (d + k) ((n * 2 ^ k).log2 + 2) = min d (n.log2 + 2) + k := by rw [log2_mul n k h]; omega
    rw [hl, Nat.one_shiftLeft, Nat.one_shiftLeft, Nat.pow_add]
    obtain ⟨g, hg⟩ : ∃ g, g = 2 ^ min d (n.log2 + 2) := ⟨_, rfl⟩
    rw [← hg]
    have hp : 0 < 2 ^ k := Nat.two_pow_pos k
    have e1 : n * 2 ^ k / (g * 2 ^ k) = n / g := Nat.mul_div_mul_right _ _ hp
    have e2 : n * 2 ^ k % (g * 2 ^ k) = n % g * 2 ^ k := Nat.mul_mod_mul_right _ _ _
    rw [e1, e2]
    have e3 : decide (g * 2 ^ k < 2 * (n % g * 2 ^ k)) = decide (g < 2 * (n % g)) := by
      rw [← Nat.mul_assoc]
      simp [Nat.mul_lt_mul_right hp]
    have e4 : (g * 2 ^ k == 2 * (n % g * 2 ^ k)) = (g == 2 * (n % g)) := by
      rw [← Nat.mul_assoc, Bool.eq_iff_iff]
      simp only [beq_iff_eq]
      exact ⟨fun h => Nat.eq_of_mul_eq_mul_right hp h, fun h => congrArg (· * 2 ^ k) h⟩
    rw [e3, e4]

theorem fb : double.fractionBits = 52 := rfl
theorem lp : double.leastPlace = -1074 := by decide

/-- A number's rounding hangs on its value alone. -/
theorem nearest_scale (s : Bool) (m k : Nat) (p : Int) : double.nearest s (m * 2 ^ k) (p - k) = double.nearest s m p := by
  unfold Format.nearest
  by_cases h : m = 0
  · subst h; simp
  · have hne : m * 2 ^ k ≠ 0 := Nat.mul_ne_zero h (Nat.ne_of_gt (Nat.two_pow_pos k))
    rw [if_neg h, if_neg hne]
    dsimp only
    have el : (p - k : Int) + ((m * 2 ^ k).log2 : Nat) - (double.fractionBits : Nat) = p + (m.log2 : Nat) - (double.fractionBits : Nat) := by rw [log2_mul m k h]; omega
    rw [el]
    obtain ⟨last, hlast⟩ : ∃ last, last = max (p + (m.log2 : Nat) - (double.fractionBits : Nat)) double.leastPlace := ⟨_, rfl⟩
    rw [← hlast]
    have ek : Toward.even.cut s ((m * 2 ^ k) <<< (p - k - last).toNat) (last - (p - k)).toNat = Toward.even.cut s (m <<< (p - last).toNat) (last - p).toNat := by
      rw [Nat.shiftLeft_eq, Nat.shiftLeft_eq]
      by_cases h1 : last ≤ p - k
      · have a1 : (last - (p - k)).toNat = 0 := by omega
        have a2 : (last - p).toNat = 0 := by omega
        have a3 : (p - last).toNat = k + (p - k - last).toNat := by omega
        rw [a1, a2, cut_zero, cut_zero, a3, Nat.pow_add, Nat.mul_assoc]
      · by_cases h2 : last ≤ p
        · have a1 : (p - k - last).toNat = 0 := by omega
          have a2 : (last - p).toNat = 0 := by omega
          have a3 : k = (p - last).toNat + (last - (p - k)).toNat := by omega
          rw [a1, a2, cut_zero, Nat.pow_zero, Nat.mul_one]
          obtain ⟨x, hx⟩ : ∃ x, x = (p - last).toNat := ⟨_, rfl⟩
          obtain ⟨y, hy⟩ : ∃ y, y = (last - (p - k)).toNat := ⟨_, rfl⟩
          rw [← hx, ← hy] at a3
          rw [← hx, ← hy, a3, Nat.pow_add, ← Nat.mul_assoc]
          exact cut_exact s _ _
        · have a1 : (p - k - last).toNat = 0 := by omega
          have a2 : (p - last).toNat = 0 := by omega
          have a3 : (last - (p - k)).toNat = (last - p).toNat + k := by omega
          rw [a1, a2, a3, Nat.pow_zero, Nat.mul_one, Nat.mul_one]
          exact cut_scale s m _ k
    rw [ek]

/-- The word of an integer. -/
def ofI (n : Int) : Nat := double.write (.number (decide (n < 0)) n.natAbs 0)

theorem rung_facts (l K : Nat) (hl : l ≤ 52) (h1 : 4503599627370496 ≤ K) (h2 : K < 9007199254740992) :
    min ((l + 1022) * 4503599627370496 + K) 9218868437227405312 = (l + 1022) * 4503599627370496 + K ∧ ¬ (l + 1022) * 4503599627370496 + K < 4503599627370496 ∧ (l + 1022) * 4503599627370496 + K < 9218868437227405312 ∧
    4503599627370496 + ((l + 1022) * 4503599627370496 + K) % 4503599627370496 = K ∧ ((-1074 : Int) + (((l + 1022) * 4503599627370496 + K) / 4503599627370496 - 1 : Nat)) = -((52 - l : Nat) : Int) := by
  have hd : ((l + 1022) * 4503599627370496 + K) / 4503599627370496 = l + 1023 := by omega
  have hlt : (l + 1022) * 4503599627370496 + K < 9218868437227405312 := by omega
  refine ⟨Nat.min_eq_left (Nat.le_of_lt hlt), by omega, hlt, by omega, ?_⟩
  rw [hd]; omega
theorem ofI_zero : ofI 0 = 0 := by decide +kernel
theorem read_zero : double.read 0 = .number false 0 (-1074) := by decide +kernel
set_option exponentiation.threshold 2000 in
/-- A small integer's word stands for that integer. -/
theorem read_ofI (n : Int) (h : n.natAbs < 9007199254740992) : ∃ u : Nat, double.read (ofI n) = .number (decide (n < 0)) (n.natAbs * 2 ^ u) (-(u : Int)) ∧ (n ≠ 0 → u ≤ 52 ∧ (n.natAbs * 2 ^ u).log2 = 52) := by
  by_cases h0 : n = 0
  · subst h0
    exact ⟨1074, by rw [ofI_zero, read_zero, show (0 : Int).natAbs = 0 from rfl, Nat.zero_mul]; rfl, fun hn => absurd rfl hn⟩
  have hm : n.natAbs ≠ 0 := by omega
  obtain ⟨m, em⟩ : ∃ m, m = n.natAbs := ⟨_, rfl⟩
  unfold ofI
  show ∃ u : Nat, double.read (double.nearest (decide (n < 0)) n.natAbs 0) = _ ∧ _
  rw [← em] at hm h ⊢
  obtain ⟨l, el⟩ : ∃ l, l = m.log2 := ⟨_, rfl⟩
  have hl : l ≤ 52 := by
    rw [el]
    have := (Nat.log2_lt hm (k := 53)).2 (by omega)
    omega
  have hlo : 2 ^ l ≤ m := by rw [el]; exact Nat.log2_self_le hm
  have hhi : m < 2 ^ (l + 1) := by rw [el]; exact Nat.lt_log2_self
  refine ⟨52 - l, ?_, fun _ => ⟨by omega, by rw [log2_mul m _ hm, ← el]; omega⟩⟩
  have e52 : m * 2 ^ (52 - l) < 9007199254740992 := by
    have : m * 2 ^ (52 - l) < 2 ^ (l + 1) * 2 ^ (52 - l) := Nat.mul_lt_mul_of_pos_right hhi (Nat.two_pow_pos _)
    rw [← Nat.pow_add, show l + 1 + (52 - l) = 53 by omega] at this
    exact this
  have e53 : 4503599627370496 ≤ m * 2 ^ (52 - l) := by
    have : 2 ^ l * 2 ^ (52 - l) ≤ m * 2 ^ (52 - l) := Nat.mul_le_mul_right _ hlo
    rw [← Nat.pow_add, show l + (52 - l) = 52 by omega] at this
    exact this
  unfold Format.nearest
  rw [if_neg hm]
  dsimp only
  rw [← el, fb, lp]
  have a1 : max ((0 : Int) + (l : Nat) - (52 : Nat)) (-1074) = (l : Int) - 52 := by omega
  rw [a1]
  have a2 : ((0 : Int) - ((l : Int) - 52)).toNat = 52 - l := by omega
  have a3 : ((l : Int) - 52 - 0).toNat = 0 := by omega
  have a4 : ((l : Int) - 52 - -1074).toNat = l + 1022 := by omega
  rw [a2, a3, a4, Nat.shiftLeft_eq, cut_zero, bn, ir]
  obtain ⟨K, hK⟩ : ∃ K, K = m * 2 ^ (52 - l) := ⟨_, rfl⟩
  rw [← hK] at e52 e53 ⊢
  obtain ⟨a5, a6, a7, b1, b2⟩ := rung_facts l K hl e53 e52
  rw [a5, read_word _ _ (by rw [ir]; exact Nat.le_of_lt a7), bn, ir, if_neg a6, if_pos a7, lp, b1, b2]

theorem signed_int (n : Int) (u v : Nat) : signed (decide (n < 0)) (n.natAbs * 2 ^ u) v = n * ((2 ^ (u + v) : Nat) : Int) := by
  unfold signed
  rw [Nat.shiftLeft_eq, Nat.mul_assoc, ← Nat.pow_add]
  by_cases h : n < 0
  · rw [if_pos (by simpa using h)]
    have : ((n.natAbs : Nat) : Int) = -n := by omega
    rw [Int.natCast_mul, this, Int.neg_mul, Int.neg_neg]
  · rw [if_neg (by simpa using h)]
    have : ((n.natAbs : Nat) : Int) = n := by omega
    rw [Int.natCast_mul, this]

theorem add_int (a b : Int) (ha : a.natAbs < 9007199254740992) (hb : b.natAbs < 9007199254740992) : double.add (ofI a) (ofI b) = some (ofI (a + b)) := by
  obtain ⟨u, eu, _⟩ := read_ofI a ha
  obtain ⟨v, ev, _⟩ := read_ofI b hb
  unfold Format.add
  rw [eu, ev]
  simp only [Datum.sum, Option.map_some, Option.some.injEq]
  obtain ⟨w, hw⟩ : ∃ w : Nat, w = max u v := ⟨_, rfl⟩
  have e1 : min (-(u : Int)) (-(v : Int)) = -(w : Int) := by omega
  rw [e1, signed_int, signed_int]
  have e2 : u + (-(u : Int) - -(w : Int)).toNat = w := by omega
  have e3 : v + (-(v : Int) - -(w : Int)).toNat = w := by omega
  rw [e2, e3, ← Int.add_mul]
  have hp : (0 : Int) < ((2 ^ w : Nat) : Int) := by have := Nat.two_pow_pos w; omega
  have es : (if (a + b) * ((2 ^ w : Nat) : Int) = 0 then (decide (a < 0) && decide (b < 0)) else decide ((a + b) * ((2 ^ w : Nat) : Int) < 0)) = decide (a + b < 0) := by
    by_cases h0 : a + b = 0
    · rw [h0, Int.zero_mul, if_pos rfl]
      by_cases h1 : a < 0
      · have : ¬ b < 0 := by omega
        simp [h1, this]
      · simp [h1]
    · have hne : (a + b) * ((2 ^ w : Nat) : Int) ≠ 0 := Int.mul_ne_zero h0 (by omega)
      rw [if_neg hne]
      by_cases h1 : a + b < 0
      · have := Int.mul_neg_of_neg_of_pos h1 hp
        rw [decide_eq_true this, decide_eq_true h1]
      · have : 0 ≤ (a + b) * ((2 ^ w : Nat) : Int) := Int.mul_nonneg (by omega) (by omega)
        have h2 : ¬ (a + b) * ((2 ^ w : Nat) : Int) < 0 := by omega
        rw [decide_eq_false h2, decide_eq_false h1]
  rw [es]
  have en : ((a + b) * ((2 ^ w : Nat) : Int)).natAbs = (a + b).natAbs * 2 ^ w := by rw [Int.natAbs_mul]; simp
  rw [en]
  show double.nearest _ _ _ = double.nearest _ _ _
  have := nearest_scale (decide (a + b < 0)) (a + b).natAbs w 0
  rw [show (0 : Int) - (w : Int) = -(w : Int) by omega] at this
  exact this

theorem log2_lt53 (m : Nat) (h : m < 9007199254740992) : m.log2 ≤ 52 := by
  by_cases h0 : m = 0
  · subst h0; decide
  · have := (Nat.log2_lt h0 (k := 53)).2 (by omega)
    omega

theorem fin_ofI (n : Int) (h : n.natAbs < 9007199254740992) : Fin (ofI n) := by
  obtain ⟨u, eu, _⟩ := read_ofI n h
  exact ⟨_, _, _, eu⟩
theorem pos_ofI (n : Nat) (h0 : n ≠ 0) (h : n < 9007199254740992) : ∃ m p, double.read (ofI n) = .number false m p ∧ m ≠ 0 := by
  obtain ⟨u, eu, _⟩ := read_ofI (n : Int) (by omega)
  refine ⟨_, _, by rw [eu, decide_eq_false (by omega)], ?_⟩
  have := Nat.two_pow_pos u
  exact Nat.mul_ne_zero (by omega) (by omega)

/-- 0 / n = 0. -/
theorem div_zero_left {y : Nat} (hy : ∃ m p, double.read y = .number false m p ∧ m ≠ 0) : double.div 0 y = some 0 := by
  obtain ⟨n, j, ey, hn⟩ := hy
  unfold Format.div
  rw [ey, read_zero]
  have e : (Datum.number false 0 (-1074)).quotient (double.fractionBits + 2) (.number false n j) = some (.number false 0 (-1074 - j - (double.fractionBits + 2 + n.log2 - Nat.log2 0 : Nat) - 1)) := by
    simp [Datum.quotient, if_neg hn]
  rw [e]
  rfl

theorem div_int (c : Int) (n : Nat) (h0 : n ≠ 0) (hn : n < 9007199254740992) (hc : (c * n).natAbs < 9007199254740992) : double.div (ofI (c * n)) (ofI n) = some (ofI c) := by
  by_cases hc0 : c = 0
  · subst hc0
    rw [Int.zero_mul, ofI_zero]
    exact div_zero_left (pos_ofI n h0 hn)
  have hcn : c * n ≠ 0 := Int.mul_ne_zero hc0 (by omega)
  obtain ⟨u, eu, hu⟩ := read_ofI (c * n) hc
  obtain ⟨v, ev, hv⟩ := read_ofI (n : Int) (by omega)
  obtain ⟨hu1, hu2⟩ := hu hcn
  obtain ⟨hv1, hv2⟩ := hv (by omega)
  unfold Format.div
  rw [eu, ev]
  have nn : ((n : Int)).natAbs = n := by omega
  rw [nn] at hv2 ⊢
  have hsn : decide ((n : Int) < 0) = false := decide_eq_false (by omega)
  rw [hsn]
  have hne : n * 2 ^ v ≠ 0 := Nat.mul_ne_zero h0 (by have := Nat.two_pow_pos v; omega)
  simp only [Datum.quotient, if_neg hne, hu2, hv2, fb, Bool.xor_false, Option.map_some, Option.some.injEq]
  rw [show 52 + 2 + 52 - 52 = 54 from rfl, Nat.shiftLeft_eq]
  have ea : (c * n).natAbs = c.natAbs * n := by rw [Int.natAbs_mul, nn]
  obtain ⟨t, ht⟩ : ∃ t, t = u + 54 - v := ⟨_, rfl⟩
  have et : u + 54 = v + t := by omega
  have ed : (c * n).natAbs * 2 ^ u * 2 ^ 54 = (c.natAbs * 2 ^ t) * (n * 2 ^ v) := by
    rw [ea, Nat.mul_assoc (c.natAbs * n), ← Nat.pow_add, et, Nat.pow_add]
    ac_rfl
  rw [ed, Nat.mul_div_cancel _ (by omega), Nat.mul_mod_left]
  have es : decide (c * (n : Int) < 0) = decide (c < 0) := by
    by_cases h : c < 0
    · rw [decide_eq_true h, decide_eq_true (Int.mul_neg_of_neg_of_pos h (by omega))]
    · have : 0 ≤ c * (n : Int) := Int.mul_nonneg (by omega) (by omega)
      rw [decide_eq_false h, decide_eq_false (by omega)]
  rw [es]
  show double.nearest _ _ _ = double.nearest _ _ _
  have e2 : 2 * (c.natAbs * 2 ^ t) + (0 != 0).toNat = c.natAbs * 2 ^ (t + 1) := by
    rw [Nat.pow_succ]; simp; ac_rfl
  have e3 : -(u : Int) - -(v : Int) - ((54 : Nat) : Int) - 1 = 0 - ((t + 1 : Nat) : Int) := by omega
  rw [e2, e3]
  exact nearest_scale _ _ _ _

/-- x - x = 0. -/
theorem sub_self {x : Nat} (hx : Fin x) : double.sub x x = some 0 := by
  obtain ⟨s, m, p, e⟩ := hx
  unfold Format.sub
  rw [e]
  have e1 : signed s m (p - min p p).toNat + signed (!s) m (p - min p p).toNat = 0 := by
    unfold signed
    cases s <;> simp <;> omega
  simp only [Datum.opposite, Datum.sum, e1, Option.map_some, Option.some.injEq, if_true]
  cases s <;> rfl
theorem mul_zero : double.mul 0 0 = some 0 := by decide +kernel
theorem add_zero : double.add 0 0 = some 0 := by decide +kernel
theorem sqrt_zero : double.sqrt 0 = some 0 := by decide +kernel
end Fl
end Go.Proofs.Ybulkwby
