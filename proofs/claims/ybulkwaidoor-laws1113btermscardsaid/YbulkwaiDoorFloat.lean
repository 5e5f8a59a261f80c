/- Bounds on the model's floats (Ieee.double): no Go in sight. -/
import Ieee.Arith
namespace Go.Proofs.YbulkwaiDoor
namespace Fl
open Ieee

theorem sw : double.signWeight = 9223372036854775808 := by decide
theorem bn : double.binade = 4503599627370496 := by decide
theorem ir : double.infRung = 9218868437227405312 := by decide
theorem fb : double.fractionBits = 52 := rfl
theorem lp : double.leastPlace = -1074 := by decide

/-- What a word with a sign and a rung up to infinity's stands for. -/
theorem read_word (neg : Bool) (rung : Nat) (h : rung ≤ double.infRung) :
    double.read (double.word neg rung) = if rung < double.binade then .number neg rung double.leastPlace
      else if rung < double.infRung then .number neg (double.binade + rung % double.binade) (double.leastPlace + (rung / double.binade - 1 : Nat)) else .infinity neg := by
  rw [ir] at h
  have e1 : (double.word neg rung / double.signWeight % 2 == 1) = neg := by
    unfold Format.word; rw [sw]
    cases neg
    · simp; omega
    · simp; omega
  have e2 : double.word neg rung % double.signWeight = rung := by
    unfold Format.word; rw [sw]
    cases neg
    · simp; omega
    · simp; omega
  unfold Format.read
  simp only [e1, e2]
  by_cases h1 : rung < double.binade
  · rw [if_pos h1, if_pos h1]
  · rw [if_neg h1, if_neg h1]
    by_cases h2 : rung < double.infRung
    · rw [if_pos h2, if_pos h2]
    · rw [if_neg h2, if_neg h2, if_pos (by rw [ir] at h2 ⊢; omega)]

/-- The word x stands for a number of at most 2 ^ e. -/
def Bd (e x : Nat) : Prop := ∃ s m p, double.read x = .number s m p ∧ -1074 ≤ p ∧ m * 2 ^ (p + 1074).toNat ≤ 2 ^ (e + 1074)

theorem pow_le {a b : Nat} (h : a ≤ b) : 2 ^ a ≤ 2 ^ b := Nat.pow_le_pow_right (by decide) h
theorem two52 : (4503599627370496 : Nat) = 2 ^ 52 := by decide
theorem two53 : (9007199254740992 : Nat) = 2 ^ 53 := by decide

/-- A word of a low rung. -/
theorem bd_word (s : Bool) (R e : Nat) (he : e ≤ 1022) (h : R ≤ (e + 1023) * 4503599627370496) : Bd e (double.word s R) := by
  have hlt : R < 9218868437227405312 := by omega
  have hr := read_word s R (by rw [ir]; exact Nat.le_of_lt hlt)
  rw [bn, ir, lp] at hr
  by_cases h1 : R < 4503599627370496
  · rw [if_pos h1] at hr
    refine ⟨s, R, -1074, hr, by omega, ?_⟩
    have : ((-1074 : Int) + 1074).toNat = 0 := by decide
    rw [this, Nat.pow_zero, Nat.mul_one]
    have h2 : (4503599627370496 : Nat) ≤ 2 ^ (e + 1074) := by rw [two52]; exact pow_le (by omega)
    omega
  · rw [if_neg h1, if_pos hlt] at hr
    obtain ⟨q, hq⟩ : ∃ q, q = R / 4503599627370496 := ⟨_, rfl⟩
    obtain ⟨f, hf⟩ : ∃ f, f = R % 4503599627370496 := ⟨_, rfl⟩
    have hR : R = q * 4503599627370496 + f := by omega
    have hf2 : f < 4503599627370496 := by omega
    have hq1 : 1 ≤ q := by omega
    rw [← hq, ← hf] at hr
    refine ⟨s, _, _, hr, by omega, ?_⟩
    have e1 : ((-1074 : Int) + ((q - 1 : Nat) : Int) + 1074).toNat = q - 1 := by omega
    rw [e1]
    by_cases h2 : q ≤ e + 1022
    · have a1 : 4503599627370496 + f ≤ 2 ^ 53 := by rw [← two53]; omega
      calc (4503599627370496 + f) * 2 ^ (q - 1) ≤ 2 ^ 53 * 2 ^ (e + 1021) := Nat.mul_le_mul a1 (pow_le (by omega))
        _ = 2 ^ (e + 1074) := by rw [← Nat.pow_add, show 53 + (e + 1021) = e + 1074 by omega]
    · have hqe : q = e + 1023 := by omega
      have hf0 : f = 0 := by omega
      subst hf0
      rw [Nat.add_zero, two52, ← Nat.pow_add]
      exact pow_le (by omega)

/-- Rounding a number below 2 ^ (a + d) after dropping d digits. -/
theorem cut_le (s : Bool) (n d a : Nat) (h : n < 2 ^ (a + d)) : Toward.even.cut s n d ≤ 2 ^ a := by
  unfold Toward.cut
  dsimp only
  obtain ⟨g, hg⟩ : ∃ g, g = min d (n.log2 + 2) := ⟨_, rfl⟩
  rw [← hg, Nat.one_shiftLeft]
  by_cases hd : d ≤ n.log2 + 2
  · have hgd : g = d := by omega
    rw [hgd]
    have h1 : n / 2 ^ d < 2 ^ a := Nat.div_lt_of_lt_mul (by rw [Nat.pow_add] at h; rwa [Nat.mul_comm])
    have h2 : ∀ b : Bool, b.toNat ≤ 1 := by decide
    have := h2 (decide (2 ^ d < 2 * (n % 2 ^ d)) || (2 ^ d == 2 * (n % 2 ^ d) && n / 2 ^ d % 2 == 1))
    omega
  · have hgl : g = n.log2 + 2 := by omega
    rw [hgl]
    have h1 : n < 2 ^ (n.log2 + 1) := Nat.lt_log2_self
    have h2 : 2 ^ (n.log2 + 2) = 2 * 2 ^ (n.log2 + 1) := by rw [Nat.pow_succ]; omega
    have h3 : n / 2 ^ (n.log2 + 2) = 0 := Nat.div_eq_of_lt (by omega)
    have h4 : n % 2 ^ (n.log2 + 2) = n := Nat.mod_eq_of_lt (by omega)
    rw [h3, h4]
    have h5 : decide (2 ^ (n.log2 + 2) < 2 * n) = false := by simp; omega
    have h6 : (2 ^ (n.log2 + 2) == 2 * n) = false := by simp; omega
    rw [h5, h6]
    simp

theorem cut_exact (s : Bool) (a d : Nat) (h0 : a ≠ 0) : Toward.even.cut s (a * 2 ^ d) d = a := by
  unfold Toward.cut
  dsimp only
  have hl : min d ((a * 2 ^ d).log2 + 2) = d := by
    have hne : a * 2 ^ d ≠ 0 := Nat.mul_ne_zero h0 (Nat.ne_of_gt (Nat.two_pow_pos d))
    have h1 : 2 ^ d ≤ a * 2 ^ d := Nat.le_mul_of_pos_left _ (Nat.pos_of_ne_zero h0)
    have := (Nat.le_log2 hne).2 h1
    omega
  rw [hl, Nat.one_shiftLeft]
  have hp : 0 < 2 ^ d := Nat.two_pow_pos d
  rw [Nat.mul_div_cancel _ hp, Nat.mul_mod_left]
  have h1 : decide (2 ^ d < 2 * 0) = false := by simp
  have h2 : (2 ^ d == 2 * 0) = false := by simp
  rw [h1, h2]; simp
theorem cut_zero (s : Bool) (n : Nat) : Toward.even.cut s n 0 = n := by
  by_cases h : n = 0
  · subst h; rfl
  · have := cut_exact s n 0 h
    simpa using this

/-- The sum of the rungs, with no powers at hand. -/
theorem rung_le {K' : Nat} (t e K : Nat) (h : t + K' ≤ e) (hk : K ≤ K' * 4503599627370496) : t * 4503599627370496 + K ≤ e * 4503599627370496 := by
  have := Nat.mul_le_mul_right 4503599627370496 h
  rw [Nat.add_mul] at this
  omega

/-- ROUNDING A NUMBER OF AT MOST 2 ^ e GIVES ONE OF AT MOST 2 ^ e. -/
theorem nearest_bd (s : Bool) (m : Nat) (p : Int) (a b e : Nat) (he : e ≤ 1022) (hp : p + 1074 = (a : Int) - (b : Int)) (h : m * 2 ^ a ≤ 2 ^ (e + 1074 + b)) : Bd e (double.nearest s m p) := by
  unfold Format.nearest
  by_cases h0 : m = 0
  · rw [if_pos h0]; exact bd_word s 0 e he (Nat.zero_le _)
  rw [if_neg h0]
  dsimp only
  obtain ⟨l, el⟩ : ∃ l, l = m.log2 := ⟨_, rfl⟩
  have hlo : 2 ^ l ≤ m := by rw [el]; exact Nat.log2_self_le h0
  have hhi : m < 2 ^ (l + 1) := by rw [el]; exact Nat.lt_log2_self
  have hle : l + a ≤ e + 1074 + b := by
    have h1 : 2 ^ (l + a) ≤ 2 ^ (e + 1074 + b) := by rw [Nat.pow_add]; exact Nat.le_trans (Nat.mul_le_mul_right _ hlo) h
    exact (Nat.pow_le_pow_iff_right (by decide)).1 h1
  rw [← el, fb, lp, bn, ir]
  by_cases hc : (-1074 : Int) ≤ p + (l : Int) - 52
  · have a1 : max (p + (l : Int) - ((52 : Nat) : Int)) (-1074) = p + (l : Int) - 52 := by omega
    rw [a1]
    obtain ⟨t, ht⟩ : ∃ t : Nat, p + (l : Int) - 52 - -1074 = (t : Int) := ⟨(p + (l : Int) - 52 - -1074).toNat, by omega⟩
    rw [ht, Int.toNat_natCast]
    have htl : t + 52 ≤ e + 1074 := by omega
    have hk : ∃ K, Toward.even.cut s (m <<< (p - (p + (l : Int) - 52)).toNat) ((p + (l : Int) - 52) - p).toNat = K ∧ K ≤ 2 * 4503599627370496 ∧ (m = 2 ^ l → K = 4503599627370496) := by
      refine ⟨_, rfl, ?_, ?_⟩
      · have : 2 * 4503599627370496 = 2 ^ 53 := by decide
        rw [this]
        refine cut_le s _ _ 53 ?_
        rw [Nat.shiftLeft_eq]
        by_cases h52 : l ≤ 52
        · have e1 : (p - (p + (l : Int) - 52)).toNat = 52 - l := by omega
          have e2 : ((p + (l : Int) - 52) - p).toNat = 0 := by omega
          rw [e1, e2]
          calc m * 2 ^ (52 - l) < 2 ^ (l + 1) * 2 ^ (52 - l) := Nat.mul_lt_mul_of_pos_right hhi (Nat.two_pow_pos _)
            _ = 2 ^ (53 + 0) := by rw [← Nat.pow_add, show l + 1 + (52 - l) = 53 + 0 by omega]
        · have e1 : (p - (p + (l : Int) - 52)).toNat = 0 := by omega
          have e2 : ((p + (l : Int) - 52) - p).toNat = l - 52 := by omega
          rw [e1, e2, Nat.pow_zero, Nat.mul_one, show 53 + (l - 52) = l + 1 by omega]
          exact hhi
      · intro hm
        rw [Nat.shiftLeft_eq, hm, two52]
        by_cases h52 : l ≤ 52
        · have e1 : (p - (p + (l : Int) - 52)).toNat = 52 - l := by omega
          have e2 : ((p + (l : Int) - 52) - p).toNat = 0 := by omega
          rw [e1, e2, cut_zero, ← Nat.pow_add, show l + (52 - l) = 52 by omega]
        · have e1 : (p - (p + (l : Int) - 52)).toNat = 0 := by omega
          have e2 : ((p + (l : Int) - 52) - p).toNat = l - 52 := by omega
          rw [e1, e2, Nat.pow_zero, Nat.mul_one]
          have : 2 ^ l = 2 ^ 52 * 2 ^ (l - 52) := by rw [← Nat.pow_add, show 52 + (l - 52) = l by omega]
          rw [this]
          exact cut_exact s _ _ (by decide)
    obtain ⟨K, hK, hK1, hK2⟩ := hk
    rw [hK]
    refine bd_word s _ e he (Nat.le_trans (Nat.min_le_left _ _) ?_)
    by_cases hlt : l + a < e + 1074 + b
    · exact rung_le (K' := 2) t (e + 1023) K (by omega) hK1
    · have heq : l + a = e + 1074 + b := by omega
      have hm : m = 2 ^ l := by
        rw [← heq, Nat.pow_add] at h
        have := Nat.le_of_mul_le_mul_right h (Nat.two_pow_pos a)
        omega
      exact rung_le (K' := 1) t (e + 1023) K (by omega) (by rw [hK2 hm]; omega)
  · have a1 : max (p + (l : Int) - ((52 : Nat) : Int)) (-1074) = -1074 := by omega
    rw [a1]
    have e0 : ((-1074 : Int) - -1074).toNat = 0 := by decide
    rw [e0, Nat.zero_mul, Nat.zero_add]
    refine bd_word s _ e he (Nat.le_trans (Nat.min_le_left _ _) ?_)
    have hk : Toward.even.cut s (m <<< (p - -1074).toNat) ((-1074 : Int) - p).toNat ≤ 2 ^ 52 := by
      refine cut_le s _ _ 52 ?_
      rw [Nat.shiftLeft_eq]
      calc m * 2 ^ (p - -1074).toNat < 2 ^ (l + 1) * 2 ^ (p - -1074).toNat := Nat.mul_lt_mul_of_pos_right hhi (Nat.two_pow_pos _)
        _ = 2 ^ (l + 1 + (p - -1074).toNat) := by rw [← Nat.pow_add]
        _ ≤ 2 ^ (52 + ((-1074 : Int) - p).toNat) := pow_le (by omega)
    rw [← two52] at hk
    exact Nat.le_trans hk (Nat.le_trans (Nat.le_of_eq (Nat.one_mul _).symm) (Nat.mul_le_mul_right 4503599627370496 (show 1 ≤ e + 1023 by omega)))
end Fl
end Go.Proofs.YbulkwaiDoor
