/- The two polynomials, as words with bounds. -/
import Derived.Test.YbulkwaiDoorOrder
namespace Go.Proofs.YbulkwaiDoor
namespace Fl
open Ieee

def M (x y : Nat) : Nat := (double.mul x y).getD 0
def A (x y : Nat) : Nat := (double.add x y).getD 0
def D (x y : Nat) : Nat := (double.sub x y).getD 0
theorem m_bd {i j x y : Nat} (k : Nat) (hx : Bd i x) (hy : Bd j y) (hk : i + j = k) (he : k ≤ 1022) : double.mul x y = some (M x y) ∧ Bd k (M x y) := by
  subst hk
  obtain ⟨r, h, hb⟩ := mul_bd hx hy he
  have e : M x y = r := by unfold M; rw [h]; rfl
  rw [e]; exact ⟨h, hb⟩
theorem a_bd {i j x y : Nat} (k : Nat) (hx : Bd i x) (hy : Bd j y) (hk : max i j + 1 = k) (he : k ≤ 1022) : double.add x y = some (A x y) ∧ Bd k (A x y) := by
  subst hk
  obtain ⟨r, h, hb⟩ := add_bd hx hy he
  have e : A x y = r := by unfold A; rw [h]; rfl
  rw [e]; exact ⟨h, hb⟩
theorem d_bd {i j x y : Nat} (k : Nat) (hx : Bd i x) (hy : Bd j y) (hk : max i j + 1 = k) (he : k ≤ 1022) : double.sub x y = some (D x y) ∧ Bd k (D x y) := by
  subst hk
  obtain ⟨r, h, hb⟩ := sub_bd hx hy he
  have e : D x y = r := by unfold D; rw [h]; rfl
  rw [e]; exact ⟨h, hb⟩

/-- Six terms by Horner's way. -/
structure Hor (k0 k1 k2 k3 k4 k5 zz a0 b1 a1 b2 a2 b3 a3 b4 a4 b5 : Nat) : Prop where
  e0 : double.mul k0 zz = some a0
  f1 : double.add a0 k1 = some b1
  e1 : double.mul b1 zz = some a1
  f2 : double.add a1 k2 = some b2
  e2 : double.mul b2 zz = some a2
  f3 : double.add a2 k3 = some b3
  e3 : double.mul b3 zz = some a3
  f4 : double.add a3 k4 = some b4
  e4 : double.mul b4 zz = some a4
  f5 : double.add a4 k5 = some b5
  bd : Bd 345 b5
theorem horner {k0 k1 k2 k3 k4 k5 zz : Nat} (h0 : Bd 0 k0) (h1 : Bd 0 k1) (h2 : Bd 0 k2) (h3 : Bd 0 k3) (h4 : Bd 0 k4) (h5 : Bd 0 k5) (hz : Bd 68 zz) :
    ∃ a0 b1 a1 b2 a2 b3 a3 b4 a4 b5, Hor k0 k1 k2 k3 k4 k5 zz a0 b1 a1 b2 a2 b3 a3 b4 a4 b5 := by
  obtain ⟨a0, e0, c0⟩ := mul_bd h0 hz (by omega)
  obtain ⟨b1, f1, d1⟩ := add_bd c0 h1 (by omega)
  obtain ⟨a1, e1, c1⟩ := mul_bd d1 hz (by omega)
  obtain ⟨b2, f2, d2⟩ := add_bd c1 h2 (by omega)
  obtain ⟨a2, e2, c2⟩ := mul_bd d2 hz (by omega)
  obtain ⟨b3, f3, d3⟩ := add_bd c2 h3 (by omega)
  obtain ⟨a3, e3, c3⟩ := mul_bd d3 hz (by omega)
  obtain ⟨b4, f4, d4⟩ := add_bd c3 h4 (by omega)
  obtain ⟨a4, e4, c4⟩ := mul_bd d4 hz (by omega)
  obtain ⟨b5, f5, d5⟩ := add_bd c4 h5 (by omega)
  exact ⟨a0, b1, a1, b2, a2, b3, a3, b4, a4, b5, e0, f1, e1, f2, e2, f3, e3, f4, e4, f5, d5.mono (by omega)⟩
/-- Beyond the whole of the sine's polynomial. -/
structure SinP (z zz u v r b5 : Nat) : Prop where
  ez : double.mul z z = some zz
  eu : double.mul z zz = some u
  ev : double.mul u b5 = some v
  er : double.add z v = some r
  bd : Bd 482 r
theorem sinP {z : Nat} (hz : Bd 34 z) : ∃ zz, double.mul z z = some zz ∧ Bd 68 zz ∧ ∀ b5, Bd 345 b5 → ∃ u v r, SinP z zz u v r b5 := by
  obtain ⟨zz, ez, bz⟩ := mul_bd hz hz (by omega)
  refine ⟨zz, ez, bz.mono (by omega), fun b5 hb => ?_⟩
  obtain ⟨u, eu, bu⟩ := mul_bd hz bz (by omega)
  obtain ⟨v, ev, bv⟩ := mul_bd bu hb (by omega)
  obtain ⟨r, er, br⟩ := add_bd hz bv (by omega)
  exact ⟨u, v, r, ez, eu, ev, er, br.mono (by omega)⟩
theorem bd_half : Bd 0 4602678819172646912 := bd_rung _ 0 (by decide) (by decide) (by decide)
theorem bd_one : Bd 0 4607182418800017408 := bd_rung _ 0 (by decide) (by decide) (by decide)
structure CosP (z zz h g q v r b5 : Nat) : Prop where
  ez : double.mul z z = some zz
  eh : double.mul 4602678819172646912 zz = some h
  eg : double.sub 4607182418800017408 h = some g
  eq : double.mul zz zz = some q
  ev : double.mul q b5 = some v
  er : double.add g v = some r
  bd : Bd 482 r
theorem cosP {z : Nat} (hz : Bd 34 z) : ∃ zz, double.mul z z = some zz ∧ Bd 68 zz ∧ ∀ b5, Bd 345 b5 → ∃ h g q v r, CosP z zz h g q v r b5 := by
  obtain ⟨zz, ez, bz⟩ := mul_bd hz hz (by omega)
  refine ⟨zz, ez, bz.mono (by omega), fun b5 hb => ?_⟩
  obtain ⟨h, eh, bh⟩ := mul_bd bd_half bz (by omega)
  obtain ⟨g, eg, bg⟩ := sub_bd bd_one bh (by omega)
  obtain ⟨q, eq, bq⟩ := mul_bd bz bz (by omega)
  obtain ⟨v, ev, bv⟩ := mul_bd bq hb (by omega)
  obtain ⟨r, er, br⟩ := add_bd bg bv (by omega)
  exact ⟨h, g, q, v, r, ez, eh, eg, eq, ev, er, br.mono (by omega)⟩
end Fl
end Go.Proofs.YbulkwaiDoor
