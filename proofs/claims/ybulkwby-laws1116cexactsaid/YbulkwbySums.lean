/- The two passes of spread, as plain functions on words. -/
import Derived.Test.YbulkwbyExactness
namespace Go.Proofs.Ybulkwby
namespace Fl
open Ieee

/-- The sum of f 0, .., f (k - 1), rounded at each step. -/
def S (f : Nat → Int) : Nat → Nat
  | 0 => 0
  | k + 1 => (double.add (S f k) (ofI (f k))).getD 0
/-- The sum of the squares of f i - m. -/
def Q (f : Nat → Int) (m : Nat) : Nat → Nat
  | 0 => 0
  | k + 1 => (double.add (Q f m k) ((double.mul ((double.sub (ofI (f k)) m).getD 0) ((double.sub (ofI (f k)) m).getD 0)).getD 0)).getD 0
def Small (f : Nat → Int) : Prop := ∀ i, -128 ≤ f i ∧ f i ≤ 127
theorem Small.fin {f : Nat → Int} (h : Small f) (i : Nat) : Fin (ofI (f i)) := fin_ofI _ (by have := h i; omega)
theorem w_zero : W 0 := by unfold W; rw [read_zero]; rfl
theorem pos_zero : Pos 0 := by unfold Pos; rw [read_zero]; exact ⟨rfl, rfl⟩
theorem S_ok {f : Nat → Int} (h : Small f) (k : Nat) : W (S f k) ∧ double.add (S f k) (ofI (f k)) = some (S f (k + 1)) := by
  induction k with
  | zero => obtain ⟨r, e, _⟩ := add_fin w_zero (h.fin 0); exact ⟨w_zero, by show double.add 0 _ = some ((double.add 0 _).getD 0); rw [e]; rfl⟩
  | succ k ih =>
    obtain ⟨hw, he⟩ := ih
    obtain ⟨r, e, hr⟩ := add_fin hw (h.fin k)
    have er : S f (k + 1) = r := by show (double.add (S f k) _).getD 0 = r; rw [e]; rfl
    have hw' : W (S f (k + 1)) := by rw [er]; exact hr
    obtain ⟨r', e', _⟩ := add_fin hw' (h.fin (k + 1))
    exact ⟨hw', by show double.add (S f (k + 1)) _ = some ((double.add (S f (k + 1)) _).getD 0); rw [e']; rfl⟩
/-- One step of the second pass. -/
theorem Q_step {f : Nat → Int} (h : Small f) {m : Nat} (hm : W m) (k : Nat) (hq : Pos (Q f m k)) :
    ∃ d e, double.sub (ofI (f k)) m = some d ∧ double.mul d d = some e ∧ double.add (Q f m k) e = some (Q f m (k + 1)) ∧ Pos (Q f m (k + 1)) := by
  obtain ⟨d, e1, hd⟩ := sub_fin (h.fin k) hm
  obtain ⟨e, e2, he⟩ := mul_self hd
  obtain ⟨r, e3, hr⟩ := add_pos hq he
  have er : Q f m (k + 1) = r := by
    show (double.add (Q f m k) ((double.mul ((double.sub (ofI (f k)) m).getD 0) ((double.sub (ofI (f k)) m).getD 0)).getD 0)).getD 0 = r
    rw [e1]; show (double.add (Q f m k) ((double.mul d d).getD 0)).getD 0 = r
    rw [e2]; show (double.add (Q f m k) e).getD 0 = r
    rw [e3]; rfl
  exact ⟨d, e, e1, e2, by rw [er]; exact e3, by rw [er]; exact hr⟩
theorem Q_pos {f : Nat → Int} (h : Small f) {m : Nat} (hm : W m) (k : Nat) : Pos (Q f m k) := by
  induction k with
  | zero => exact pos_zero
  | succ k ih => obtain ⟨d, e, _, _, _, hp⟩ := Q_step h hm k ih; exact hp
/-- The mean and the deviation of n > 0 values. -/
theorem ends_ok {f : Nat → Int} (h : Small f) (n : Nat) (h0 : n ≠ 0) (hn : n < 9007199254740992) :
    ∃ m q v, double.div (S f n) (ofI n) = some m ∧ W m ∧ double.div (Q f m n) (ofI n) = some q ∧ double.sqrt q = some v ∧ W v := by
  obtain ⟨m, e1, hm, _⟩ := div_fin (S_ok h n).1 (pos_ofI n h0 hn)
  have hp := Q_pos h hm n
  obtain ⟨q, e2, hq1, hq2⟩ := div_fin (x := Q f m n) hp.1 (pos_ofI n h0 hn)
  obtain ⟨v, e3, hv⟩ := sqrt_pos (x := q) ⟨hq1, hq2.trans hp.2⟩
  exact ⟨m, q, v, e1, hm, e2, e3, hv⟩

/-- All values the same: the sum is exact. -/
theorem S_const (c : Int) (hc : -128 ≤ c ∧ c ≤ 127) (k : Nat) (hk : k ≤ 1024) : S (fun _ => c) k = ofI (c * k) := by
  induction k with
  | zero => show 0 = ofI (c * 0); rw [Int.mul_zero, ofI_zero]
  | succ k ih =>
    show (double.add (S (fun _ => c) k) (ofI c)).getD 0 = _
    rw [ih (by omega)]
    have b1 : -131072 ≤ c * (k : Int) ∧ c * (k : Int) ≤ 131072 := by
      have h1 : (-128) * (k : Int) ≤ c * (k : Int) := Int.mul_le_mul_of_nonneg_right hc.1 (by omega)
      have h2 : c * (k : Int) ≤ 127 * (k : Int) := Int.mul_le_mul_of_nonneg_right hc.2 (by omega)
      omega
    rw [add_int _ _ (by omega) (by omega)]
    show ofI (c * k + c) = _
    congr 1
    rw [Int.natCast_add, Int.mul_add]; simp
theorem Q_const (c : Int) (hc : -128 ≤ c ∧ c ≤ 127) (k : Nat) : Q (fun _ => c) (ofI c) k = 0 := by
  have hf : Fin (ofI c) := fin_ofI c (by omega)
  induction k with
  | zero => rfl
  | succ k ih =>
    show (double.add (Q (fun _ => c) (ofI c) k) ((double.mul ((double.sub (ofI c) (ofI c)).getD 0) ((double.sub (ofI c) (ofI c)).getD 0)).getD 0)).getD 0 = 0
    rw [ih, sub_self hf]
    show (double.add 0 ((double.mul 0 0).getD 0)).getD 0 = 0
    rw [mul_zero]
    show (double.add 0 0).getD 0 = 0
    rw [add_zero]; rfl
theorem ends_const (c : Int) (hc : -128 ≤ c ∧ c ≤ 127) (n : Nat) (h0 : n ≠ 0) (hn : n ≤ 1024) :
    double.div (S (fun _ => c) n) (ofI n) = some (ofI c) ∧ double.div (Q (fun _ => c) (ofI c) n) (ofI n) = some 0 ∧ double.sqrt 0 = some 0 ∧ W (ofI c) := by
  have b1 : -131072 ≤ c * (n : Int) ∧ c * (n : Int) ≤ 131072 := by
    have h1 : (-128) * (n : Int) ≤ c * (n : Int) := Int.mul_le_mul_of_nonneg_right hc.1 (by omega)
    have h2 : c * (n : Int) ≤ 127 * (n : Int) := Int.mul_le_mul_of_nonneg_right hc.2 (by omega)
    omega
  refine ⟨by rw [S_const c hc n hn]; exact div_int c n h0 (by omega) (by omega), by rw [Q_const c hc n]; exact div_zero_left (pos_ofI n h0 (by omega)), sqrt_zero, (fin_ofI c (by omega)).w⟩
end Fl
end Go.Proofs.Ybulkwby
