/- The plain functions of seat b1113aF: hexadecimal digits, and what an escape stands for. No Go in sight. -/
namespace Go.Proofs.YbulkwaiFmt
namespace Esc

def digB (c : Int) : Bool := (decide (48 ≤ c) && decide (c ≤ 57)) || (decide (97 ≤ c) && decide (c ≤ 102)) || (decide (65 ≤ c) && decide (c ≤ 70))
def digN (c : Int) : Int := if c ≤ 57 then c - 48 else if c ≤ 70 then c - 55 else c - 87
theorem digB_iff (c : Int) : digB c = true ↔ (48 ≤ c ∧ c ≤ 57) ∨ (97 ≤ c ∧ c ≤ 102) ∨ (65 ≤ c ∧ c ≤ 70) := by
  simp [digB, or_assoc]
theorem digB_no (c : Int) : digB c = false ↔ ¬ ((48 ≤ c ∧ c ≤ 57) ∨ (97 ≤ c ∧ c ≤ 102) ∨ (65 ≤ c ∧ c ≤ 70)) := by
  rw [← digB_iff]; simp
theorem digN_bd (c : Int) (h : digB c = true) : 0 ≤ digN c ∧ digN c ≤ 15 := by
  rw [digB_iff] at h
  unfold digN
  split
  · omega
  · split <;> omega

/-- The number that the digits d k, .., d (k + n - 1) write. -/
def val (d : Nat → Int) (k : Nat) : Nat → Int
  | 0 => 0
  | n + 1 => val d k n * 16 + digN (d (k + n))
def all (d : Nat → Int) (k : Nat) : Nat → Bool
  | 0 => true
  | n + 1 => all d k n && digB (d (k + n))
theorem all_le (d : Nat → Int) (k n m : Nat) (h : all d k n = true) (hm : m ≤ n) : all d k m = true := by
  induction n with
  | zero => obtain rfl : m = 0 := by omega
            rfl
  | succ n ih =>
    simp [all] at h
    by_cases e : m = n + 1
    · subst e; simp [all, h]
    · exact ih h.1 (by omega)
theorem all_dig (d : Nat → Int) (k n m : Nat) (h : all d k n = true) (hm : m < n) : digB (d (k + m)) = true := by
  have := all_le d k n (m + 1) h (by omega)
  simp [all] at this
  exact this.2
theorem all_not (d : Nat → Int) (k n m : Nat) (h : digB (d (k + m)) = false) (hm : m < n) : all d k n = false := by
  cases e : all d k n with
  | false => rfl
  | true => rw [all_dig d k n m e hm] at h; cases h
theorem val_bd (d : Nat → Int) (k n : Nat) (h : all d k n = true) : 0 ≤ val d k n ∧ val d k n < 16 ^ n := by
  induction n with
  | zero => simp [val]
  | succ n ih =>
    simp [all] at h
    have i := ih h.1
    have b := digN_bd _ h.2
    simp only [val]
    rw [Int.pow_succ]
    omega

/-- What 'u' and the bytes d 1, .., d (N - 1) behind it stand for. -/
def escU (d : Nat → Int) (N : Nat) : Option (Int × Nat) :=
  if N < 5 then none
  else if all d 1 4 = false then none
  else if val d 1 4 < 55296 ∨ 57343 < val d 1 4 then some (val d 1 4, 5)
  else if 11 ≤ N ∧ d 5 = 92 ∧ d 6 = 117 ∧ all d 7 4 = true ∧ val d 1 4 < 56320 ∧ 56320 ≤ val d 7 4 ∧ val d 7 4 ≤ 57343 then some (65536 + (val d 1 4 - 55296) * 1024 + (val d 7 4 - 56320), 11)
  else some (65533, 5)
/-- What the bytes d 0, .., d (N - 1) behind a backslash stand for, and how many of them: 'none' where they are no escape. -/
def esc (d : Nat → Int) (N : Nat) : Option (Int × Nat) :=
  if N = 0 then none
  else if d 0 = 34 ∨ d 0 = 92 ∨ d 0 = 47 then some (d 0, 1)
  else if d 0 = 98 then some (8, 1)
  else if d 0 = 102 then some (12, 1)
  else if d 0 = 110 then some (10, 1)
  else if d 0 = 114 then some (13, 1)
  else if d 0 = 116 then some (9, 1)
  else if d 0 = 117 then escU d N
  else none
theorem esc_u (d : Nat → Int) (N : Nat) (hN : N ≠ 0) (h : d 0 = 117) : esc d N = escU d N := by
  unfold esc; simp [h, hN]
theorem escU_short {d : Nat → Int} {N : Nat} (h : N < 5) : escU d N = none := by unfold escU; rw [if_pos h]
theorem escU_bad {d : Nat → Int} {N : Nat} (h : all d 1 4 = false) : escU d N = none := by unfold escU; rw [if_pos h]; split <;> rfl
theorem escU_plain {d : Nat → Int} {N : Nat} (h : ¬ N < 5) (ha : all d 1 4 = true) (hv : val d 1 4 < 55296 ∨ 57343 < val d 1 4) : escU d N = some (val d 1 4, 5) := by
  unfold escU; rw [if_neg h, if_neg (by simp [ha]), if_pos hv]
theorem escU_pair {d : Nat → Int} {N : Nat} (h : ¬ N < 5) (ha : all d 1 4 = true) (hv : ¬ (val d 1 4 < 55296 ∨ 57343 < val d 1 4))
    (hp : 11 ≤ N ∧ d 5 = 92 ∧ d 6 = 117 ∧ all d 7 4 = true ∧ val d 1 4 < 56320 ∧ 56320 ≤ val d 7 4 ∧ val d 7 4 ≤ 57343) : escU d N = some (65536 + (val d 1 4 - 55296) * 1024 + (val d 7 4 - 56320), 11) := by
  unfold escU; rw [if_neg h, if_neg (by simp [ha]), if_neg hv, if_pos hp]
theorem escU_half {d : Nat → Int} {N : Nat} (h : ¬ N < 5) (ha : all d 1 4 = true) (hv : ¬ (val d 1 4 < 55296 ∨ 57343 < val d 1 4))
    (hp : ¬ (11 ≤ N ∧ d 5 = 92 ∧ d 6 = 117 ∧ all d 7 4 = true ∧ val d 1 4 < 56320 ∧ 56320 ≤ val d 7 4 ∧ val d 7 4 ≤ 57343)) : escU d N = some (65533, 5) := by
  unfold escU; rw [if_neg h, if_neg (by simp [ha]), if_neg hv, if_neg hp]
end Esc
end Go.Proofs.YbulkwaiFmt
