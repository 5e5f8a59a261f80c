/- What the four operations do to the bounds. -/
import Derived.Test.YbulkwaiDoorFloat
namespace Go.Proofs.YbulkwaiDoor
namespace Fl
open Ieee

theorem Bd.mono {e e' x : Nat} (h : Bd e x) (he : e ≤ e') : Bd e' x := by
  obtain ⟨s, m, p, h1, h2, h3⟩ := h
  exact ⟨s, m, p, h1, h2, Nat.le_trans h3 (pow_le (by omega))⟩

theorem mul_bd {i j x y : Nat} (hx : Bd i x) (hy : Bd j y) (he : i + j ≤ 1022) : ∃ r, double.mul x y = some r ∧ Bd (i + j) r := by
  obtain ⟨s, m, p, h1, h2, h3⟩ := hx
  obtain ⟨t, n, q, k1, k2, k3⟩ := hy
  refine ⟨double.nearest (s ^^ t) (m * n) (p + q), by unfold Format.mul; rw [h1, k1]; rfl, ?_⟩
  refine nearest_bd _ _ _ ((p + 1074).toNat + (q + 1074).toNat) 1074 _ he (by omega) ?_
  calc m * n * 2 ^ ((p + 1074).toNat + (q + 1074).toNat) = (m * 2 ^ (p + 1074).toNat) * (n * 2 ^ (q + 1074).toNat) := by rw [Nat.pow_add]; ac_rfl
    _ ≤ 2 ^ (i + 1074) * 2 ^ (j + 1074) := Nat.mul_le_mul h3 k3
    _ = 2 ^ (i + j + 1074 + 1074) := by rw [← Nat.pow_add, show i + 1074 + (j + 1074) = i + j + 1074 + 1074 by omega]

theorem natAbs_signed (s : Bool) (m u : Nat) : (signed s m u).natAbs = m * 2 ^ u := by
  unfold signed
  rw [Nat.shiftLeft_eq]
  cases s
  · exact Int.natAbs_natCast _
  · rw [if_pos rfl, Int.natAbs_neg]; exact Int.natAbs_natCast _

theorem sum_bd {i j : Nat} {s t : Bool} {m n : Nat} {p q : Int} (h2 : -1074 ≤ p) (h3 : m * 2 ^ (p + 1074).toNat ≤ 2 ^ (i + 1074)) (k2 : -1074 ≤ q) (k3 : n * 2 ^ (q + 1074).toNat ≤ 2 ^ (j + 1074)) (he : max i j + 1 ≤ 1022) (sg : Bool) :
    Bd (max i j + 1) (double.nearest sg (signed s m (p - min p q).toNat + signed t n (q - min p q).toNat).natAbs (min p q)) := by
  refine nearest_bd _ _ _ (min p q + 1074).toNat 0 _ he (by omega) ?_
  have hab : (signed s m (p - min p q).toNat + signed t n (q - min p q).toNat).natAbs ≤ m * 2 ^ (p - min p q).toNat + n * 2 ^ (q - min p q).toNat := by
    rw [← natAbs_signed s m, ← natAbs_signed t n]; exact Int.natAbs_add_le _ _
  refine Nat.le_trans (Nat.mul_le_mul_right _ hab) ?_
  rw [Nat.add_mul, Nat.mul_assoc, Nat.mul_assoc, ← Nat.pow_add, ← Nat.pow_add, show (p - min p q).toNat + (min p q + 1074).toNat = (p + 1074).toNat by omega, show (q - min p q).toNat + (min p q + 1074).toNat = (q + 1074).toNat by omega]
  have a1 : 2 ^ (i + 1074) ≤ 2 ^ (max i j + 1074) := pow_le (by omega)
  have a2 : 2 ^ (j + 1074) ≤ 2 ^ (max i j + 1074) := pow_le (by omega)
  refine Nat.le_trans (Nat.add_le_add (Nat.le_trans h3 a1) (Nat.le_trans k3 a2)) (Nat.le_of_eq ?_)
  rw [show max i j + 1 + 1074 + 0 = (max i j + 1074) + 1 by omega]
  obtain ⟨k, hk⟩ : ∃ k, k = max i j + 1074 := ⟨_, rfl⟩
  rw [← hk, Nat.pow_succ, Nat.mul_two]

theorem add_bd {i j x y : Nat} (hx : Bd i x) (hy : Bd j y) (he : max i j + 1 ≤ 1022) : ∃ r, double.add x y = some r ∧ Bd (max i j + 1) r := by
  obtain ⟨s, m, p, h1, h2, h3⟩ := hx
  obtain ⟨t, n, q, k1, k2, k3⟩ := hy
  unfold Format.add
  rw [h1, k1]
  exact ⟨_, rfl, sum_bd h2 h3 k2 k3 he _⟩
theorem sub_bd {i j x y : Nat} (hx : Bd i x) (hy : Bd j y) (he : max i j + 1 ≤ 1022) : ∃ r, double.sub x y = some r ∧ Bd (max i j + 1) r := by
  obtain ⟨s, m, p, h1, h2, h3⟩ := hx
  obtain ⟨t, n, q, k1, k2, k3⟩ := hy
  unfold Format.sub
  rw [h1, k1]
  exact ⟨_, rfl, sum_bd h2 h3 k2 k3 he _⟩

/-- A quotient with its sticky digit. -/
theorem sticky_le (M n C : Nat) (h : M ≤ n * C) : 2 * (M / n) + (M % n != 0).toNat ≤ 2 * C := by
  have h1 : M / n ≤ C := Nat.div_le_of_le_mul h
  by_cases hr : M % n = 0
  · rw [hr]; simp; omega
  · have h2 : M / n < C := by
      rcases Nat.lt_or_ge (M / n) C with h' | h'
      · exact h'
      · have e : M / n = C := by omega
        have := Nat.div_add_mod M n
        rw [e] at this
        omega
    have h3 : ∀ b : Bool, b.toNat ≤ 1 := by decide
    have := h3 (M % n != 0)
    omega

/-- The word y stands for a positive number of at least 2 ^ -40. -/
def Big (y : Nat) : Prop := ∃ n q, double.read y = .number false n q ∧ n ≠ 0 ∧ -1074 ≤ q ∧ 2 ^ 1034 ≤ n * 2 ^ (q + 1074).toNat

theorem div_bd {i x y : Nat} (hx : Bd i x) (hy : Big y) (he : i + 40 ≤ 1022) : ∃ r, double.div x y = some r ∧ Bd (i + 40) r := by
  obtain ⟨s, m, p, h1, h2, h3⟩ := hx
  obtain ⟨n, q, k1, kn, k2, k3⟩ := hy
  obtain ⟨mo, hmo⟩ : ∃ mo, mo = double.fractionBits + 2 + n.log2 - m.log2 := ⟨_, rfl⟩
  refine ⟨double.nearest (s ^^ false) (2 * ((m <<< mo) / n) + ((m <<< mo) % n != 0).toNat) (p - q - (mo : Int) - 1), by unfold Format.div; rw [h1, k1, hmo]; simp only [Datum.quotient, if_neg kn]; rfl, ?_⟩
  by_cases hm : m = 0
  · subst hm
    have e0 : (2 * ((0 <<< mo) / n) + ((0 <<< mo) % n != 0).toNat) = 0 := by simp
    rw [e0]
    refine nearest_bd _ 0 _ (p - q - (mo : Int) - 1 + 1074).toNat (-(p - q - (mo : Int) - 1 + 1074)).toNat _ he (by omega) ?_
    rw [Nat.zero_mul]; exact Nat.zero_le _
  have hlo : 2 ^ m.log2 ≤ m := Nat.log2_self_le hm
  have hhi : n < 2 ^ (n.log2 + 1) := Nat.lt_log2_self
  obtain ⟨lm, elm⟩ : ∃ l, l = m.log2 := ⟨_, rfl⟩
  obtain ⟨ln, eln⟩ : ∃ l, l = n.log2 := ⟨_, rfl⟩
  obtain ⟨a, ea⟩ : ∃ a, a = (p + 1074).toNat := ⟨_, rfl⟩
  obtain ⟨b, eb⟩ : ∃ b, b = (q + 1074).toNat := ⟨_, rfl⟩
  rw [← elm] at hlo hmo
  rw [← eln] at hhi hmo
  rw [← ea] at h3
  rw [← eb] at k3
  rw [fb] at hmo
  have key : m * 2 ^ (a + 1034) ≤ n * 2 ^ (b + i + 1074) := by
    calc m * 2 ^ (a + 1034) = (m * 2 ^ a) * 2 ^ 1034 := by rw [Nat.pow_add, ← Nat.mul_assoc]
      _ ≤ 2 ^ (i + 1074) * (n * 2 ^ b) := Nat.mul_le_mul h3 k3
      _ = n * 2 ^ (b + i + 1074) := by rw [Nat.mul_left_comm, ← Nat.pow_add, show i + 1074 + b = b + i + 1074 by omega]
  have hex : lm + a + 1034 < ln + 1 + (b + i + 1074) := by
    have c1 : 2 ^ (lm + a + 1034) < 2 ^ (ln + 1 + (b + i + 1074)) := by
      calc 2 ^ (lm + a + 1034) = 2 ^ lm * 2 ^ (a + 1034) := by rw [← Nat.pow_add, Nat.add_assoc]
        _ ≤ m * 2 ^ (a + 1034) := Nat.mul_le_mul_right _ hlo
        _ ≤ n * 2 ^ (b + i + 1074) := key
        _ < 2 ^ (ln + 1) * 2 ^ (b + i + 1074) := Nat.mul_lt_mul_of_pos_right hhi (Nat.two_pow_pos _)
        _ = 2 ^ (ln + 1 + (b + i + 1074)) := by rw [← Nat.pow_add]
    exact (Nat.pow_lt_pow_iff_right (by decide)).1 c1
  obtain ⟨c, hc⟩ : ∃ c : Nat, c + a = mo + b + i + 40 := ⟨mo + b + i + 40 - a, by omega⟩
  have hM : m * 2 ^ mo ≤ n * 2 ^ c := by
    have c2 : m * 2 ^ mo * 2 ^ (a + 1034) ≤ n * 2 ^ c * 2 ^ (a + 1034) := by
      calc m * 2 ^ mo * 2 ^ (a + 1034) = m * 2 ^ (a + 1034) * 2 ^ mo := Nat.mul_right_comm _ _ _
        _ ≤ n * 2 ^ (b + i + 1074) * 2 ^ mo := Nat.mul_le_mul_right _ key
        _ = n * 2 ^ (b + i + 1074 + mo) := by rw [Nat.mul_assoc, ← Nat.pow_add]
        _ = n * 2 ^ (c + (a + 1034)) := by rw [show b + i + 1074 + mo = c + (a + 1034) by omega]
        _ = n * 2 ^ c * 2 ^ (a + 1034) := by rw [Nat.pow_add 2 c, Nat.mul_assoc]
    exact Nat.le_of_mul_le_mul_right c2 (Nat.two_pow_pos _)
  rw [Nat.shiftLeft_eq]
  have hst := sticky_le (m * 2 ^ mo) n (2 ^ c) hM
  refine nearest_bd _ _ _ (p - q - (mo : Int) - 1 + 1074).toNat (-(p - q - (mo : Int) - 1 + 1074)).toNat _ he (by omega) ?_
  refine Nat.le_trans (Nat.mul_le_mul_right _ hst) ?_
  rw [← Nat.pow_succ', ← Nat.pow_add]
  exact pow_le (by omega)
end Fl
end Go.Proofs.YbulkwaiDoor
