/- The reduction of a great argument. -/
import Derived.Test.YbulkwaiDoorBits
import Derived.Test.YbulkwaiDoorOrder
import Derived.Deep.QuietTactic
import Derived.BigQuiet
namespace Go.Proofs.YbulkwaiDoor
open Go.RowKit Fl

/-- Every cell of the table of 4 over pi holds a word, the same in every world. -/
def Tab (T : Nat → Nat) (w : World) : Prop := ∀ k, k < 20 → w.cell? ⟨3, k, none⟩ = some (.int .u64 (T k))
theorem Tab.drewN {T : Nat → Nat} {w : World} (h : Tab T w) (n : Nat) : Tab T (w.drewN n) := h

set_option exponentiation.threshold 2000 in
/-- At 2 ^ 29 or beyond. -/
theorem ge_word {x m : Nat} {p : Int} (hx : x < 9218868437227405312) (hr : Ieee.double.read x = .number false m p) (hp : -1074 ≤ p) (h : Ieee.double.order x 4737786807993761792 ≠ some .lt) : 1051 * 4503599627370496 < x ∧ 2 ^ 1103 ≤ m * 2 ^ (p + 1074).toNat := by
  rw [order_V hr hp read_c29 (by decide)] at h
  have h' : ¬ (m * 2 ^ (p + 1074).toNat < 4503599627370496 * 2 ^ ((-23 : Int) + 1074).toNat) := fun hlt => h (by rw [Nat.compare_eq_lt.2 hlt])
  have h2 : 2 ^ 1103 ≤ m * 2 ^ (p + 1074).toNat := by
    rw [show ((-23 : Int) + 1074).toNat = 1051 by decide, two52, ← Nat.pow_add] at h'
    exact Nat.le_of_not_lt h'
  refine ⟨?_, h2⟩
  refine Nat.lt_of_not_le fun hle => ?_
  have hm : mag x = x := Nat.mod_eq_of_lt (by omega)
  obtain ⟨s, m', p', k1, k2, k3⟩ := bd_rung x 28 (by omega) (by decide) (by rw [hm]; exact hle)
  rw [hr] at k1
  obtain ⟨rfl, rfl, rfl⟩ := Ieee.Datum.number.inj k1
  have h4 : 2 ^ 1103 ≤ 2 ^ (28 + 1074) := Nat.le_trans h2 k3
  exact absurd h4 (by rw [Nat.pow_le_pow_iff_right (by decide)]; decide)
set_option exponentiation.threshold 2000 in
theorem order_pi4 {x m : Nat} {p : Int} (hr : Ieee.double.read x = .number false m p) (hp : -1074 ≤ p) (h : 2 ^ 1103 ≤ m * 2 ^ (p + 1074).toNat) : Ieee.double.order x 4605249457297304856 = some .gt := by
  obtain ⟨s, m', p', k1, k2, k3⟩ := bd_rung 4605249457297304856 0 (by decide) (by decide) (by decide)
  have hs : s = false := by
    have := read_fin 4605249457297304856 (by decide) (by decide)
    obtain ⟨a, b, hab, _⟩ := this
    rw [k1] at hab
    exact (Ieee.Datum.number.inj hab).1
  subst hs
  rw [order_V hr hp k1 k2, Nat.compare_eq_gt.2 ?_]
  refine Nat.lt_of_le_of_lt k3 (Nat.lt_of_lt_of_le ?_ h)
  exact Nat.pow_lt_pow_right (by decide) (by decide)

theorem or_lt62 (a b : Nat) (ha : a < 4611686018427387904) (hb : b < 4611686018427387904) : a ||| b < 4611686018427387904 := Nat.or_lt_two_pow (n := 62) ha hb

theorem join_word (H X : Nat) (hH : H < 18446744073709551616) (hX : X ≤ 1022) : ∃ R : Nat, bits .or .u64 ((H : Int) / 4096) (IntKind.u64.wrap ((X : Int) * 4503599627370496)) = (R : Int) ∧ Bd 1 R := by
  have hR : (H / 4096 ||| X * 4503599627370496) < 4611686018427387904 := or_lt62 _ _ (by omega) (by omega)
  refine ⟨H / 4096 ||| X * 4503599627370496, ?_, ?_⟩
  · rw [← u64_or_nat (H / 4096) (X * 4503599627370496) (by omega) (by omega), ← wrap_id (X * 4503599627370496) (by omega)]
    rfl
  · exact bd_rung _ 1 (by omega) (by decide) (by rw [show mag _ = _ from Nat.mod_eq_of_lt (by omega)]; omega)

set_option maxHeartbeats 4000000 in
set_option maxRecDepth 100000 in
theorem trig_any (T : Nat → Nat) (x : Nat) {m : Nat} {p : Int} (hx : x < 9218868437227405312) (hr : Ieee.double.read x = .number false m p) (hp : -1074 ≤ p) (hge : Ieee.double.order x 4737786807993761792 ≠ some .lt) :
    ∃ j z : Nat, (j = 0 ∨ j = 2 ∨ j = 4 ∨ j = 6) ∧ Bd 2 z ∧ ∀ w, Tab T w → Calls Ybad.prog 21 #[.float .f64 x] w fun e w' => e = .returned (.tuple #[.int .u64 j, .float .f64 z]) ∧ ∃ n, w' = w.drewN n := by
  obtain ⟨hlo, hV⟩ := ge_word hx hr hp hge
  have ho : FloatKind.f64.format.order x 4605249457297304856 = some .gt := order_pi4 hr hp hV
  clear hge hV hr hp
  obtain ⟨E, hE⟩ : ∃ E, E = x / 4503599627370496 := ⟨_, rfl⟩
  obtain ⟨G, hG⟩ : ∃ G, G = E - 1014 := ⟨_, rfl⟩
  obtain ⟨D, hD⟩ : ∃ D, D = G / 64 := ⟨_, rfl⟩
  obtain ⟨S, hS⟩ : ∃ S, S = G % 64 := ⟨_, rfl⟩
  have a0 : bits .and .u64 ((x:Int) / 4503599627370496) 2047 = (E : Int) := by
    have := u64_and_nat E 2047 (by omega) (by decide)
    rw [nat_mask11, Nat.mod_eq_of_lt (by omega)] at this
    rw [← this, hE]
    simp
  have a1 : wrap64 (E:Int) = E := (show ∀ n : Int, -9223372036854775808 ≤ n ∧ n ≤ 9223372036854775807 → wrap64 n = n from fun n h => by unfold wrap64; omega) _ (by omega)
  have a2 : wrap64 ((E:Int) - 1023) = (E:Int) - 1023 := (show ∀ n : Int, -9223372036854775808 ≤ n ∧ n ≤ 9223372036854775807 → wrap64 n = n from fun n h => by unfold wrap64; omega) _ (by omega)
  have a3 : wrap64 ((E:Int) - 1023 - 52) = (E:Int) - 1075 := by rw [(show ∀ n : Int, -9223372036854775808 ≤ n ∧ n ≤ 9223372036854775807 → wrap64 n = n from fun n h => by unfold wrap64; omega) _ (by omega)]; omega
  have a4 : wrap64 ((E:Int) - 1075 + 61) = (G:Int) := by rw [(show ∀ n : Int, -9223372036854775808 ≤ n ∧ n ≤ 9223372036854775807 → wrap64 n = n from fun n h => by unfold wrap64; omega) _ (by omega)]; omega
  have a5 : IntKind.u64.wrap (G:Int) = G := wrap_id _ (by omega)
  have a6 : IntKind.u64.wrap ((G:Int) / 64) = (D:Int) := by rw [← wrap_id D (by omega), hD]; simp
  have a7 : (G:Int).tmod 64 = (S:Int) := by rw [hS]; rfl
  obtain ⟨I, hI, a8⟩ := bits_nat .or (bits .andNot .u64 (x:Int) 9218868437227405312) 4503599627370496
  have d0 : (D:Int) < 20 := by omega
  have d1 : ((D + 1 : Nat):Int) < 20 := by omega
  have d2 : ((D + 2 : Nat):Int) < 20 := by omega
  have d3 : ((D + 3 : Nat):Int) < 20 := by omega
  have b1 : IntKind.u64.wrap ((D:Int) + 1) = ((D + 1 : Nat):Int) := by rw [← wrap_id (D + 1) (by omega)]; rfl
  have b2 : IntKind.u64.wrap ((D:Int) + 2) = ((D + 2 : Nat):Int) := by rw [← wrap_id (D + 2) (by omega)]; rfl
  have b3 : IntKind.u64.wrap ((D:Int) + 3) = ((D + 3 : Nat):Int) := by rw [← wrap_id (D + 3) (by omega)]; rfl
  obtain ⟨Z0, hZ0, e0⟩ := bits_nat .or (IntKind.u64.wrap ((T D : Int) * 2 ^ min S 64)) ((T (D + 1) : Int) / 2 ^ min (IntKind.u64.wrap (64 - (S : Int))).toNat 64)
  obtain ⟨Z1, hZ1, e1⟩ := bits_nat .or (IntKind.u64.wrap ((T (D + 1) : Int) * 2 ^ min S 64)) ((T (D + 2) : Int) / 2 ^ min (IntKind.u64.wrap (64 - (S : Int))).toNat 64)
  obtain ⟨Z2, hZ2, e2⟩ := bits_nat .or (IntKind.u64.wrap ((T (D + 2) : Int) * 2 ^ min S 64)) ((T (D + 3) : Int) / 2 ^ min (IntKind.u64.wrap (64 - (S : Int))).toNat 64)
  obtain ⟨z2hi, z2lo, q1, q2, m2⟩ := mul64 Z2 I hZ2 hI
  obtain ⟨z1hi, z1lo, q3, q4, m1⟩ := mul64 Z1 I hZ1 hI
  obtain ⟨K, hK, k0⟩ := wrap_nat ((Z0 : Int) * (I : Int))
  obtain ⟨LO, C, hLO, hC, p1⟩ := add64 z1lo z2hi 0 q4 q1 (by omega)
  obtain ⟨HI, C2, hHI, hC2, p2⟩ := add64 K z1hi C hK q3 hC
  obtain ⟨J, hJ⟩ : ∃ J, J = HI / 2305843009213693952 := ⟨_, rfl⟩
  have j0 : (HI : Int) / 2305843009213693952 = (J : Int) := by rw [hJ]; rfl
  have hJ8 : J < 8 := by omega
  obtain ⟨H, hH, f0⟩ := bits_nat .or (IntKind.u64.wrap ((HI : Int) * 8)) ((LO : Int) / 2305843009213693952)
  obtain ⟨L, hL, l0⟩ := lead64 H hH
  have g0 : IntKind.u64.wrap (L : Int) = L := wrap_id _ (by omega)
  obtain ⟨L1, hL1⟩ : ∃ L1, L1 = L + 1 := ⟨_, rfl⟩
  have g1 : IntKind.u64.wrap ((L : Int) + 1) = (L1 : Int) := by rw [hL1, ← wrap_id (L + 1) (by omega)]; rfl
  have g2 : IntKind.u64.wrap (1023 - (L1 : Int)) = ((1022 - L : Nat) : Int) := by rw [← wrap_id (1022 - L) (by omega)]; congr 1; omega
  obtain ⟨H2, hH2, f1⟩ := bits_nat .or (IntKind.u64.wrap ((H : Int) * 2 ^ min L1 64)) ((LO : Int) / 2 ^ min (IntKind.u64.wrap (64 - (L1 : Int))).toNat 64)
  obtain ⟨X, hX⟩ : ∃ X, X = 1022 - L := ⟨_, rfl⟩
  rw [← hX] at g2
  obtain ⟨R, f2, bR⟩ := join_word H2 X hH2 (by rw [hX]; exact Nat.sub_le _ _)
  have p1' : ∀ w, (callFunc 25 #[.int .u64 z1lo, .int .u64 z2hi, .int .u64 0]).run Ybad.prog w = .ok (.value (.tuple #[.int .u64 LO, .int .u64 C])) w := p1
  have M2 := hide m2
  have M1 := hide m1
  have L0 := hide l0
  clear p1 m2 m1 l0 hE hG hD hS hx hlo hI hZ0 hZ1 hZ2 q1 q2 q3 q4 hK hLO hC hHI hC2 hJ hH hL hH2 hX hL1
  have h1 := call16
  have h2 := to_bits
  have h3 := call15
  have h4 := from_bits
  obtain ⟨z1, s1, bz1⟩ := sub_bd bR (show Bd 0 4607182418800017408 from bd_rung _ 0 (by decide) (by decide) (by decide)) (by decide)
  obtain ⟨y0, t0, by0⟩ := mul_bd bR (show Bd 0 4605249457297304856 from bd_rung _ 0 (by decide) (by decide) (by decide)) (by decide)
  obtain ⟨y1, t1, by1⟩ := mul_bd bz1 (show Bd 0 4605249457297304856 from bd_rung _ 0 (by decide) (by decide) (by decide)) (by decide)
  have rs := r_sub s1
  have r0 := r_mul t0
  have r1 := r_mul t1
  clear s1 t0 t1 bR bz1
  by_cases hpar : J % 2 = 1
  · have u0 : bits .and .u64 (J : Int) 1 = 1 := by
      have := u64_and_nat J 1 (by omega) (by decide)
      rw [nat_mask1, hpar] at this
      exact this
    obtain ⟨J1, hJ1⟩ : ∃ J1, J1 = J + 1 := ⟨_, rfl⟩
    have u1 : IntKind.u64.wrap ((J : Int) + 1) = (J1 : Int) := by rw [hJ1, ← wrap_id (J + 1) (by omega)]; rfl
    obtain ⟨J2, hJ2⟩ : ∃ J2, J2 = J1 % 8 := ⟨_, rfl⟩
    have u2 : bits .and .u64 (J1 : Int) 7 = (J2 : Int) := by
      have := u64_and_nat J1 7 (by omega) (by decide)
      rw [nat_mask3, ← hJ2] at this
      exact this
    refine ⟨J2, y1, by omega, by1.mono (by decide), fun w hw => ?_⟩
    have c0 := hw D (by omega)
    have c1 := hw (D + 1) (by omega)
    have c2 := hw (D + 2) (by omega)
    have c3 := hw (D + 3) (by omega)
    clear hw hJ8 hpar by0 by1 hJ2 hJ1
    go_enter Ybad.func21, Ybad.ntmps21
    go_wp2_with fail
    clear h1 h2 a0 a1 a2 a3 a4 a5 a6 a7 a8 ho
    go_quiet (fail)
    go_wp2_with fail
    go_quiet (fail)
    go_wp2_with fail
    go_quiet (fail)
    go_wp2_with fail
    clear e0 e1 e2 c0 c1 c2 c3 b1 b2 b3 d0 d1 d2 d3
    refine (M2.out _).mono ?_
    rintro e w1 ⟨rfl, rfl⟩
    go_wp2_with fail
    refine (M1.out _).mono ?_
    rintro e w1 ⟨rfl, rfl⟩
    go_wp2_with fail
    refine (L0.out _).mono ?_
    rintro e w1 ⟨rfl, rfl⟩
    go_wp2_with fail
    go_ret2
    exact ⟨by simp, _, rfl⟩
  · have u0 : bits .and .u64 (J : Int) 1 = 0 := by
      have := u64_and_nat J 1 (by omega) (by decide)
      rw [nat_mask1, show J % 2 = 0 by omega] at this
      exact this
    refine ⟨J, y0, by omega, by0.mono (by decide), fun w hw => ?_⟩
    have c0 := hw D (by omega)
    have c1 := hw (D + 1) (by omega)
    have c2 := hw (D + 2) (by omega)
    have c3 := hw (D + 3) (by omega)
    clear hw hJ8 hpar by0 by1
    go_enter Ybad.func21, Ybad.ntmps21
    go_wp2_with fail
    clear h1 h2 a0 a1 a2 a3 a4 a5 a6 a7 a8 ho
    go_quiet (fail)
    go_wp2_with fail
    go_quiet (fail)
    go_wp2_with fail
    go_quiet (fail)
    go_wp2_with fail
    clear e0 e1 e2 c0 c1 c2 c3 b1 b2 b3 d0 d1 d2 d3
    refine (M2.out _).mono ?_
    rintro e w1 ⟨rfl, rfl⟩
    go_wp2_with fail
    refine (M1.out _).mono ?_
    rintro e w1 ⟨rfl, rfl⟩
    go_wp2_with fail
    refine (L0.out _).mono ?_
    rintro e w1 ⟨rfl, rfl⟩
    go_wp2_with fail
    go_ret2
    exact ⟨by simp, _, rfl⟩
end Go.Proofs.YbulkwaiDoor
