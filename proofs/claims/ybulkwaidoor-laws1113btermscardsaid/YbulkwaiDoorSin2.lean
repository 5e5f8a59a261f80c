/- The walk of sin. -/
import Derived.Test.YbulkwaiDoorCos
namespace Go.Proofs.YbulkwaiDoor
open Go.RowKit Fl
set_option maxHeartbeats 4000000 in
set_option maxRecDepth 100000 in
theorem sin_neg_even {T : Nat → Nat} {x X u n a1 b1 a2 b2 a3 z c j : Nat} {oi : Option Ordering} (hx : x < 18446744073709551616) (hnum : Num x) (h0 : FloatKind.f64.format.order x 0 = some .lt) (hX : Neg x = X) (hoi : FloatKind.f64.format.order (mag x) 9218868437227405311 = oi) (hne : (oi == some .gt) = false)
    (ho : FloatKind.f64.format.order X 4737786807993761792 = some .lt)
    (hu : Ieee.double.mul X 4608412980311869571 = some u) (hn : floatToIntVal .f64 u .u64 = some (n : Int)) (hp : bits .and .u64 (n : Int) 1 = 0) (h7 : bits .and .u64 (n : Int) 7 = (j : Int)) (R : Fl.Rest X (floatOfInt .f64 n) a1 b1 a2 b2 a3 z) (hc : SinAt true j z c) (w : World) (hw : Lai T w) :
    Calls Ybad.prog 14 #[.float .f64 x] w fun e w' => e = .returned (.float .f64 c) ∧ ∃ n, w' = w.drewN n := by
  have C1 := hide (fun w => isNaN_num hnum w)
  have C2 := hide (fun w => isInf_any hx oi hoi w)
  rw [hne] at C2
  have hnx := r_neg x
  rw [hX] at hnx
  clear hX
  clear hoi hne hnum hx
  have l0 := r_mul hu
  have l1 := r_toInt hn
  have m1 := r_mul R.e1
  have m2 := r_sub R.f1
  have m3 := r_mul R.e2
  have m4 := r_sub R.f2
  have m5 := r_mul R.e3
  have m6 := r_sub R.f3
  clear hu hn R
  rcases hc with ⟨zz, ka0, kb1, ka1, kb2, ka2, kb3, ka3, kb4, ka4, kb5, kh, kg, kq, kv, kr, V, hjc⟩ | ⟨zz, ka0, kb1, ka1, kb2, ka2, kb3, ka3, kb4, ka4, kb5, ku, kv, kr, V, hjc⟩
  · have c0 := hw.c0
    have c1 := hw.c1
    have c2 := hw.c2
    have c3 := hw.c3
    have c4 := hw.c4
    have c5 := hw.c5
    have hneg := r_neg kr
    have g0 := r_mul V.k.e0
    have g1 := r_add V.k.f1
    have g2 := r_mul V.k.e1
    have g3 := r_add V.k.f2
    have g4 := r_mul V.k.e2
    have g5 := r_add V.k.f3
    have g6 := r_mul V.k.e3
    have g7 := r_add V.k.f4
    have g8 := r_mul V.k.e4
    have g9 := r_add V.k.f5
    have p0 := r_mul V.p.ez
    have p1 := r_mul V.p.eh
    have p2 := r_sub V.p.eg
    have p3 := r_mul V.p.eq
    have p4 := r_mul V.p.ev
    have p5 := r_add V.p.er
    clear V hw
    rcases hjc with ⟨rfl, rfl⟩ | ⟨rfl, rfl⟩
    all_goals
      go_enter Ybad.func14, Ybad.ntmps14
      go_wp2_with fail
      refine (C1.out _).mono ?_
      rintro e w1 ⟨rfl, rfl⟩
      go_wp2_with fail
      refine (C2.out _).mono ?_
      rintro e w1 ⟨rfl, rfl⟩
      go_wp2_with fail
      go_ret
      exact ⟨rfl, 0, rfl⟩
  · have c0 := hw.s0
    have c1 := hw.s1
    have c2 := hw.s2
    have c3 := hw.s3
    have c4 := hw.s4
    have c5 := hw.s5
    have hneg := r_neg kr
    have g0 := r_mul V.k.e0
    have g1 := r_add V.k.f1
    have g2 := r_mul V.k.e1
    have g3 := r_add V.k.f2
    have g4 := r_mul V.k.e2
    have g5 := r_add V.k.f3
    have g6 := r_mul V.k.e3
    have g7 := r_add V.k.f4
    have g8 := r_mul V.k.e4
    have g9 := r_add V.k.f5
    have p0 := r_mul V.p.ez
    have p1 := r_mul V.p.eu
    have p2 := r_mul V.p.ev
    have p3 := r_add V.p.er
    clear V hw
    rcases hjc with ⟨rfl, rfl⟩ | ⟨rfl, rfl⟩
    all_goals
      go_enter Ybad.func14, Ybad.ntmps14
      go_wp2_with fail
      refine (C1.out _).mono ?_
      rintro e w1 ⟨rfl, rfl⟩
      go_wp2_with fail
      refine (C2.out _).mono ?_
      rintro e w1 ⟨rfl, rfl⟩
      go_wp2_with fail
      go_ret
      exact ⟨rfl, 0, rfl⟩

set_option maxHeartbeats 4000000 in
set_option maxRecDepth 100000 in
theorem sin_neg_odd {T : Nat → Nat} {x X u n N y a1 b1 a2 b2 a3 z c j : Nat} {oi : Option Ordering} (hx : x < 18446744073709551616) (hnum : Num x) (h0 : FloatKind.f64.format.order x 0 = some .lt) (hX : Neg x = X) (hoi : FloatKind.f64.format.order (mag x) 9218868437227405311 = oi) (hne : (oi == some .gt) = false)
    (ho : FloatKind.f64.format.order X 4737786807993761792 = some .lt)
    (hu : Ieee.double.mul X 4608412980311869571 = some u) (hn : floatToIntVal .f64 u .u64 = some (n : Int)) (hp : bits .and .u64 (n : Int) 1 = 1) (hN : IntKind.u64.wrap ((n : Int) + 1) = (N : Int)) (hy : Ieee.double.add (floatOfInt .f64 n) 4607182418800017408 = some y) (h7 : bits .and .u64 (N : Int) 7 = (j : Int)) (R : Fl.Rest X y a1 b1 a2 b2 a3 z) (hc : SinAt true j z c) (w : World) (hw : Lai T w) :
    Calls Ybad.prog 14 #[.float .f64 x] w fun e w' => e = .returned (.float .f64 c) ∧ ∃ n, w' = w.drewN n := by
  have C1 := hide (fun w => isNaN_num hnum w)
  have C2 := hide (fun w => isInf_any hx oi hoi w)
  rw [hne] at C2
  have hnx := r_neg x
  rw [hX] at hnx
  clear hX
  clear hoi hne hnum hx
  have l0 := r_mul hu
  have l1 := r_toInt hn
  have m1 := r_mul R.e1
  have m2 := r_sub R.f1
  have m3 := r_mul R.e2
  have m4 := r_sub R.f2
  have m5 := r_mul R.e3
  have m6 := r_sub R.f3
  have m0 := r_add hy
  clear hu hn R
  clear hy
  rcases hc with ⟨zz, ka0, kb1, ka1, kb2, ka2, kb3, ka3, kb4, ka4, kb5, kh, kg, kq, kv, kr, V, hjc⟩ | ⟨zz, ka0, kb1, ka1, kb2, ka2, kb3, ka3, kb4, ka4, kb5, ku, kv, kr, V, hjc⟩
  · have c0 := hw.c0
    have c1 := hw.c1
    have c2 := hw.c2
    have c3 := hw.c3
    have c4 := hw.c4
    have c5 := hw.c5
    have hneg := r_neg kr
    have g0 := r_mul V.k.e0
    have g1 := r_add V.k.f1
    have g2 := r_mul V.k.e1
    have g3 := r_add V.k.f2
    have g4 := r_mul V.k.e2
    have g5 := r_add V.k.f3
    have g6 := r_mul V.k.e3
    have g7 := r_add V.k.f4
    have g8 := r_mul V.k.e4
    have g9 := r_add V.k.f5
    have p0 := r_mul V.p.ez
    have p1 := r_mul V.p.eh
    have p2 := r_sub V.p.eg
    have p3 := r_mul V.p.eq
    have p4 := r_mul V.p.ev
    have p5 := r_add V.p.er
    clear V hw
    rcases hjc with ⟨rfl, rfl⟩ | ⟨rfl, rfl⟩
    all_goals
      go_enter Ybad.func14, Ybad.ntmps14
      go_wp2_with fail
      refine (C1.out _).mono ?_
      rintro e w1 ⟨rfl, rfl⟩
      go_wp2_with fail
      refine (C2.out _).mono ?_
      rintro e w1 ⟨rfl, rfl⟩
      go_wp2_with fail
      go_ret
      exact ⟨rfl, 0, rfl⟩
  · have c0 := hw.s0
    have c1 := hw.s1
    have c2 := hw.s2
    have c3 := hw.s3
    have c4 := hw.s4
    have c5 := hw.s5
    have hneg := r_neg kr
    have g0 := r_mul V.k.e0
    have g1 := r_add V.k.f1
    have g2 := r_mul V.k.e1
    have g3 := r_add V.k.f2
    have g4 := r_mul V.k.e2
    have g5 := r_add V.k.f3
    have g6 := r_mul V.k.e3
    have g7 := r_add V.k.f4
    have g8 := r_mul V.k.e4
    have g9 := r_add V.k.f5
    have p0 := r_mul V.p.ez
    have p1 := r_mul V.p.eu
    have p2 := r_mul V.p.ev
    have p3 := r_add V.p.er
    clear V hw
    rcases hjc with ⟨rfl, rfl⟩ | ⟨rfl, rfl⟩
    all_goals
      go_enter Ybad.func14, Ybad.ntmps14
      go_wp2_with fail
      refine (C1.out _).mono ?_
      rintro e w1 ⟨rfl, rfl⟩
      go_wp2_with fail
      refine (C2.out _).mono ?_
      rintro e w1 ⟨rfl, rfl⟩
      go_wp2_with fail
      go_ret
      exact ⟨rfl, 0, rfl⟩

set_option maxHeartbeats 4000000 in
set_option maxRecDepth 100000 in
theorem sin_neg_high {T : Nat → Nat} {x X z c j : Nat} {oi : Option Ordering} {og : Ordering} (hx : x < 18446744073709551616) (hnum : Num x) (h0 : FloatKind.f64.format.order x 0 = some .lt) (hX : Neg x = X) (hoi : FloatKind.f64.format.order (mag x) 9218868437227405311 = oi) (hne : (oi == some .gt) = false)
    (ho : FloatKind.f64.format.order X 4737786807993761792 = some og) (hog : og = .gt ∨ og = .eq)
    (ht : ∀ w, Tab T w → Calls Ybad.prog 21 #[.float .f64 X] w fun e w' => e = .returned (.tuple #[.int .u64 j, .float .f64 z]) ∧ ∃ n, w' = w.drewN n) (hc : SinAt true j z c) (w : World) (hw : Lai T w) :
    Calls Ybad.prog 14 #[.float .f64 x] w fun e w' => e = .returned (.float .f64 c) ∧ ∃ n, w' = w.drewN n := by
  have C1 := hide (fun w => isNaN_num hnum w)
  have C2 := hide (fun w => isInf_any hx oi hoi w)
  rw [hne] at C2
  have C4 := hide ht
  have W := hide hw
  clear ht
  have hnx := r_neg x
  rw [hX] at hnx
  clear hX
  clear hoi hne hnum hx
  rcases hog with rfl | rfl
  all_goals
    rcases hc with ⟨zz, ka0, kb1, ka1, kb2, ka2, kb3, ka3, kb4, ka4, kb5, kh, kg, kq, kv, kr, V, hjc⟩ | ⟨zz, ka0, kb1, ka1, kb2, ka2, kb3, ka3, kb4, ka4, kb5, ku, kv, kr, V, hjc⟩
    · have c0 := hw.c0
      have c1 := hw.c1
      have c2 := hw.c2
      have c3 := hw.c3
      have c4 := hw.c4
      have c5 := hw.c5
      have hneg := r_neg kr
      have g0 := r_mul V.k.e0
      have g1 := r_add V.k.f1
      have g2 := r_mul V.k.e1
      have g3 := r_add V.k.f2
      have g4 := r_mul V.k.e2
      have g5 := r_add V.k.f3
      have g6 := r_mul V.k.e3
      have g7 := r_add V.k.f4
      have g8 := r_mul V.k.e4
      have g9 := r_add V.k.f5
      have p0 := r_mul V.p.ez
      have p1 := r_mul V.p.eh
      have p2 := r_sub V.p.eg
      have p3 := r_mul V.p.eq
      have p4 := r_mul V.p.ev
      have p5 := r_add V.p.er
      clear V hw
      rcases hjc with ⟨rfl, rfl⟩ | ⟨rfl, rfl⟩
      all_goals
        go_enter Ybad.func14, Ybad.ntmps14
        go_wp2_with fail
        refine (C1.out _).mono ?_
        rintro e w1 ⟨rfl, rfl⟩
        go_wp2_with fail
        refine (C2.out _).mono ?_
        rintro e w1 ⟨rfl, rfl⟩
        go_wp2_with fail
        refine (C4.out _ W.out.t).mono ?_
        rintro e w1 ⟨rfl, n1, rfl⟩
        go_wp2_with fail
        go_ret
        exact ⟨rfl, n1, rfl⟩
    · have c0 := hw.s0
      have c1 := hw.s1
      have c2 := hw.s2
      have c3 := hw.s3
      have c4 := hw.s4
      have c5 := hw.s5
      have hneg := r_neg kr
      have g0 := r_mul V.k.e0
      have g1 := r_add V.k.f1
      have g2 := r_mul V.k.e1
      have g3 := r_add V.k.f2
      have g4 := r_mul V.k.e2
      have g5 := r_add V.k.f3
      have g6 := r_mul V.k.e3
      have g7 := r_add V.k.f4
      have g8 := r_mul V.k.e4
      have g9 := r_add V.k.f5
      have p0 := r_mul V.p.ez
      have p1 := r_mul V.p.eu
      have p2 := r_mul V.p.ev
      have p3 := r_add V.p.er
      clear V hw
      rcases hjc with ⟨rfl, rfl⟩ | ⟨rfl, rfl⟩
      all_goals
        go_enter Ybad.func14, Ybad.ntmps14
        go_wp2_with fail
        refine (C1.out _).mono ?_
        rintro e w1 ⟨rfl, rfl⟩
        go_wp2_with fail
        refine (C2.out _).mono ?_
        rintro e w1 ⟨rfl, rfl⟩
        go_wp2_with fail
        refine (C4.out _ W.out.t).mono ?_
        rintro e w1 ⟨rfl, n1, rfl⟩
        go_wp2_with fail
        go_ret
        exact ⟨rfl, n1, rfl⟩
end Go.Proofs.YbulkwaiDoor
