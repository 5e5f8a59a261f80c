/- Plain laws on the floats of the model (Ieee.double): no Go in sight. -/
import Ieee.Arith
namespace Go.Proofs.Ybulkwby
namespace Fl
open Ieee

theorem sw : double.signWeight = 9223372036854775808 := by decide
theorem bn : double.binade = 4503599627370496 := by decide
theorem ir : double.infRung = 9218868437227405312 := by decide

/-- What a word with a sign and a rung up to infinity's stands for. -/
theorem read_word (neg : Bool) (rung : Nat) (h : rung ≤ double.infRung) :
    double.read (double.word neg rung) = if rung < double.binade then .number neg rung double.leastPlace
      else if rung < double.infRung then .number neg (double.binade + rung % double.binade) (double.leastPlace + (rung / double.binade - 1 : Nat)) else .infinity neg := by
  rw [ir] at h
  have e1 : (double.word neg rung / double.signWeight % 2 == 1) = neg := by
    unfold Format.word; rw [sw]
    cases neg
    · simp; omega
    · simp; omega
  have e2 : double.word neg rung % double.signWeight = rung := by
    unfold Format.word; rw [sw]
    cases neg
    · simp; omega
    · simp; omega
  unfold Format.read
  simp only [e1, e2]
  by_cases h1 : rung < double.binade
  · rw [if_pos h1, if_pos h1]
  · rw [if_neg h1, if_neg h1]
    by_cases h2 : rung < double.infRung
    · rw [if_pos h2, if_pos h2]
    · rw [if_neg h2, if_neg h2, if_pos (by rw [ir] at h2 ⊢; omega)]

/-- No NaN, and the sign. -/
def Ok (d : Datum) : Prop := d.isNaN = false
theorem ok_word (neg : Bool) (rung : Nat) (h : rung ≤ double.infRung) : Ok (double.read (double.word neg rung)) ∧ (double.read (double.word neg rung)).neg = neg := by
  rw [read_word neg rung h]
  split
  · exact ⟨rfl, rfl⟩
  · split
    · exact ⟨rfl, rfl⟩
    · exact ⟨rfl, rfl⟩
/-- What is written and read again is no NaN, and has its sign. -/
theorem ok_write (d : Datum) (h : Ok d) : Ok (double.read (double.write d)) ∧ (double.read (double.write d)).neg = d.neg := by
  cases d with
  | nan s t => simp [Ok, Datum.isNaN] at h
  | infinity s => exact ok_word s _ (Nat.le_refl _)
  | number s m p =>
    show Ok (double.read (double.nearest s m p)) ∧ (double.read (double.nearest s m p)).neg = s
    unfold Format.nearest
    dsimp only
    split
    · exact ok_word s 0 (Nat.zero_le _)
    · exact ok_word s _ (Nat.min_le_right _ _)

def W (x : Nat) : Prop := Ok (double.read x)
def Fin (x : Nat) : Prop := ∃ s m p, double.read x = .number s m p
def Pos (x : Nat) : Prop := Ok (double.read x) ∧ (double.read x).neg = false
theorem Fin.w {x : Nat} (h : Fin x) : W x := by obtain ⟨s, m, p, e⟩ := h; unfold W; rw [e]; rfl

/-- a + b, b finite. -/
theorem add_fin {x y : Nat} (hx : W x) (hy : Fin y) : ∃ r, double.add x y = some r ∧ W r := by
  obtain ⟨t, n, j, ey⟩ := hy
  unfold W at hx
  unfold Format.add
  rw [ey]
  cases hd : double.read x with
  | nan s t => rw [hd] at hx; simp [Ok, Datum.isNaN] at hx
  | infinity s => exact ⟨_, rfl, (ok_write (.infinity s) rfl).1⟩
  | number s m i => exact ⟨_, rfl, (ok_write (.number _ _ _) rfl).1⟩
theorem sub_fin {x y : Nat} (hx : Fin x) (hy : W y) : ∃ r, double.sub x y = some r ∧ W r := by
  obtain ⟨t, n, j, ex⟩ := hx
  unfold W at hy
  unfold Format.sub
  rw [ex]
  cases hd : double.read y with
  | nan s t => rw [hd] at hy; simp [Ok, Datum.isNaN] at hy
  | infinity s => exact ⟨_, rfl, (ok_write (.infinity _) rfl).1⟩
  | number s m i => exact ⟨_, rfl, (ok_write (.number _ _ _) rfl).1⟩
theorem mul_self {x : Nat} (hx : W x) : ∃ r, double.mul x x = some r ∧ Pos r := by
  unfold W at hx
  unfold Format.mul
  cases hd : double.read x with
  | nan s t => rw [hd] at hx; simp [Ok, Datum.isNaN] at hx
  | infinity s => refine ⟨_, rfl, ?_⟩; have := ok_write (.infinity (s ^^ s)) rfl; exact ⟨this.1, by rw [this.2]; simp [Datum.neg]⟩
  | number s m i => refine ⟨_, rfl, ?_⟩; have := ok_write (.number (s ^^ s) (m * m) (i + i)) rfl; exact ⟨this.1, by rw [this.2]; simp [Datum.neg]⟩
theorem signed_pos (m u : Nat) : 0 ≤ signed false m u := by unfold signed; rw [if_neg (by decide)]; exact Int.natCast_nonneg _
theorem add_pos {x y : Nat} (hx : Pos x) (hy : Pos y) : ∃ r, double.add x y = some r ∧ Pos r := by
  obtain ⟨hx1, hx2⟩ := hx
  obtain ⟨hy1, hy2⟩ := hy
  unfold Format.add
  cases hd : double.read x with
  | nan s t => rw [hd] at hx1; simp [Ok, Datum.isNaN] at hx1
  | infinity s =>
    rw [hd] at hx2
    have es : s = false := hx2
    subst es
    cases he : double.read y with
    | nan s t => rw [he] at hy1; simp [Ok, Datum.isNaN] at hy1
    | infinity t =>
      rw [he] at hy2
      have et : t = false := hy2
      subst et
      exact ⟨_, rfl, ok_write (.infinity false) rfl⟩
    | number t n j => exact ⟨_, rfl, ok_write (.infinity false) rfl⟩
  | number s m i =>
    rw [hd] at hx2
    have es : s = false := hx2
    subst es
    cases he : double.read y with
    | nan s t => rw [he] at hy1; simp [Ok, Datum.isNaN] at hy1
    | infinity t =>
      rw [he] at hy2
      have et : t = false := hy2
      subst et
      exact ⟨_, rfl, ok_write (.infinity false) rfl⟩
    | number t n j =>
      rw [he] at hy2
      have et : t = false := hy2
      subst et
      refine ⟨_, rfl, ?_⟩
      have := ok_write (.number (if signed false m (i - min i j).toNat + signed false n (j - min i j).toNat = 0 then false && false else signed false m (i - min i j).toNat + signed false n (j - min i j).toNat < 0) (signed false m (i - min i j).toNat + signed false n (j - min i j).toNat).natAbs (min i j)) rfl
      refine ⟨this.1, this.2.trans ?_⟩
      have h1 := signed_pos m (i - min i j).toNat
      have h2 := signed_pos n (j - min i j).toNat
      simp only [Datum.neg]
      split
      · rfl
      · simp; omega
theorem div_fin {x y : Nat} (hx : W x) (hy : ∃ m p, double.read y = .number false m p ∧ m ≠ 0) : ∃ r, double.div x y = some r ∧ Ok (double.read r) ∧ (double.read r).neg = (double.read x).neg := by
  obtain ⟨n, j, ey, hn⟩ := hy
  unfold W at hx
  unfold Format.div
  rw [ey]
  cases hd : double.read x with
  | nan s t => rw [hd] at hx; simp [Ok, Datum.isNaN] at hx
  | infinity s => refine ⟨_, rfl, ?_⟩; have := ok_write (.infinity (s ^^ false)) rfl; exact ⟨this.1, by rw [this.2]; simp [Datum.neg]⟩
  | number s m i =>
    have e : (Datum.number s m i).quotient (double.fractionBits + 2) (.number false n j) = some (.number (s ^^ false) (2 * ((m <<< (double.fractionBits + 2 + n.log2 - m.log2)) / n) + ((m <<< (double.fractionBits + 2 + n.log2 - m.log2)) % n != 0).toNat) (i - j - (double.fractionBits + 2 + n.log2 - m.log2 : Nat) - 1)) := by
      simp only [Datum.quotient, if_neg hn]
    rw [e]
    refine ⟨_, rfl, ?_⟩
    have := ok_write (.number (s ^^ false) (2 * ((m <<< (double.fractionBits + 2 + n.log2 - m.log2)) / n) + ((m <<< (double.fractionBits + 2 + n.log2 - m.log2)) % n != 0).toNat) (i - j - (double.fractionBits + 2 + n.log2 - m.log2 : Nat) - 1)) rfl
    exact ⟨this.1, by rw [this.2]; simp [Datum.neg]⟩
theorem sqrt_pos {x : Nat} (hx : Pos x) : ∃ r, double.sqrt x = some r ∧ W r := by
  obtain ⟨hx1, hx2⟩ := hx
  unfold Format.sqrt
  cases hd : double.read x with
  | nan s t => rw [hd] at hx1; simp [Ok, Datum.isNaN] at hx1
  | infinity s =>
    rw [hd] at hx2
    have es : s = false := hx2
    subst es
    exact ⟨_, rfl, (ok_write (.infinity false) rfl).1⟩
  | number s m i =>
    rw [hd] at hx2
    have es : s = false := hx2
    subst es
    simp only [Datum.root]
    by_cases h0 : m = 0
    · rw [if_pos h0]; exact ⟨_, rfl, (ok_write (.number _ _ _) rfl).1⟩
    · rw [if_neg h0, if_neg (by simp)]; exact ⟨_, rfl, (ok_write (.number _ _ _) rfl).1⟩
theorem order_self {x : Nat} (hx : W x) : double.order x x = some .eq := by
  unfold W at hx
  unfold Format.order
  cases hd : double.read x with
  | nan s t => rw [hd] at hx; simp [Ok, Datum.isNaN] at hx
  | infinity s => simp [Datum.order]
  | number s m i => simp [Datum.order]
end Fl
end Go.Proofs.Ybulkwby
