/- The walk of the law at numbers. -/
import Derived.Test.YbulkwaiDoorInc
namespace Go.Proofs.YbulkwaiDoor
open Go.RowKit Fl

/-- The words that the law makes besides. -/
structure Law (s M k1 a1 a2 a3 sc t1 tol : Nat) : Prop where
  g1 : Ieee.double.mul 4598175219545276416 13790925822001095552 = some k1
  g2 : Ieee.double.mul k1 s = some a1
  g3 : mag a1 = a2
  g4 : Ieee.double.mul a2 4620693217682128896 = some a3
  g5 : Ieee.double.div a3 M = some sc
  g6 : Ieee.double.mul 4472406533629990549 sc = some t1
  g7 : Ieee.double.add t1 118622047889322841 = some tol
  l1 : a1 < 18446744073709551616
  tp : Pos tol
theorem c_half : Ieee.double.mul 13826050856027422720 13790925822001095552 = some 4563050185518949248 := by decide +kernel
theorem c_quarter : Ieee.double.mul 13821547256400052224 13790925822001095552 = some 4558546585891578752 := by decide +kernel
theorem c_plus : ∃ k, Ieee.double.mul 4598175219545276416 13790925822001095552 = some k ∧ k < 18446744073709551616 ∧ Bd 0 k := by
  refine ⟨13781918622746354560, ?_, ?_, ?_⟩
  · decide +kernel
  · decide
  · exact bd_rung _ 0 (by decide) (by decide) (by decide)
theorem bd_c (x e : Nat) (hx : x < 18446744073709551616) (he : e ≤ 1022) (h : mag x ≤ (e + 1023) * 4503599627370496) : Bd e x := bd_rung x e hx he h
/-- Every word of newInclination and of the law, out of a cosine and a sine within bounds. -/
theorem words {c s : Nat} (bc : Bd 482 c) (bs : Bd 482 s) :
    ∃ c2 t3 x3 x1 t7 x7 ay ks f5 g pr d1 M ll k1 a1 a2 a3 sc t1 tol o, Inc c s c2 t3 x3 x1 t7 x7 ay ks f5 g pr d1 M ll ∧ Law s M k1 a1 a2 a3 sc t1 tol ∧
      (Num x3 ∧ Num x1 ∧ Num x7 ∧ Num ay ∧ Num ll) ∧ FloatKind.f64.format.order d1 4429962474313539354 = some o ∧ (o = .lt ∧ M = 4429962474313539354 ∨ (o = .gt ∨ o = .eq) ∧ M = d1) := by
  have b1 : Bd 0 4607182418800017408 := bd_one
  have b3 : Bd 2 4613937818241073152 := bd_c _ 2 (by decide) (by decide) (by decide)
  have b5 : Bd 3 4617315517961601024 := bd_c _ 3 (by decide) (by decide) (by decide)
  have b7 : Bd 3 4619567317775286272 := bd_c _ 3 (by decide) (by decide) (by decide)
  have b8 : Bd 3 4620693217682128896 := bd_c _ 3 (by decide) (by decide) (by decide)
  have bh : Bd 0 4563050185518949248 := bd_c _ 0 (by decide) (by decide) (by decide)
  have bq : Bd 0 4558546585891578752 := bd_c _ 0 (by decide) (by decide) (by decide)
  have bt : Bd 0 4472406533629990549 := bd_c _ 0 (by decide) (by decide) (by decide)
  have bl : Bd 0 118622047889322841 := bd_c _ 0 (by decide) (by decide) (by decide)
  obtain ⟨c2, e1, d1'⟩ := mul_bd bc bc (by decide)
  obtain ⟨t3, e2, d2⟩ := mul_bd b3 d1' (by decide)
  obtain ⟨x3, e3, d3⟩ := sub_bd d2 b1 (by decide)
  obtain ⟨x1, e4, d4⟩ := sub_bd b1 d1' (by decide)
  obtain ⟨t7, e5, d5⟩ := mul_bd b7 d1' (by decide)
  obtain ⟨x7, e6, d6⟩ := sub_bd d5 b1 (by decide)
  obtain ⟨ay, e7, d7⟩ := mul_bd bh bs (by decide)
  obtain ⟨ks, e8, d8⟩ := mul_bd bq bs (by decide)
  obtain ⟨f5, e9, d9⟩ := mul_bd b5 bc (by decide)
  obtain ⟨g, ea, da⟩ := add_bd b3 d9 (by decide)
  obtain ⟨pr, eb, db⟩ := mul_bd d8 da (by decide)
  obtain ⟨d1, ec, dc⟩ := add_bd b1 bc (by decide)
  obtain ⟨o, M, ho, hbig, hcase, hpick⟩ := max_K dc (add_lt (Bd.num b1) (Bd.num bc) ec)
  obtain ⟨ll, ee, de⟩ := div_bd db hbig (by decide)
  have ed : pickR d1 4429962474313539354 = M := by
    obtain ⟨sd, md, pd, hd⟩ := Bd.num dc
    rw [pick_num hd read_K (by decide), ho]
    exact hpick
  obtain ⟨k1, g1, lk, dk⟩ := c_plus
  obtain ⟨a1, g2, q1⟩ := mul_bd dk bs (by decide)
  have l1 : a1 < 18446744073709551616 := mul_lt (Bd.num dk) (Bd.num bs) g2
  obtain ⟨q2, p2⟩ := bd_mag l1 q1
  obtain ⟨a3, g4, q3⟩ := mul_bd q2 b8 (by decide)
  have p3 := mul_pos p2 (pos_rung 4620693217682128896 (by decide)) g4 q3
  obtain ⟨sc, g5, q4⟩ := div_bd q3 hbig (by decide)
  have p4 := div_pos p3 hbig g5 q4
  obtain ⟨t1, g6, q5⟩ := mul_bd bt q4 (by decide)
  have p5 := mul_pos (pos_rung 4472406533629990549 (by decide)) p4 g6 q5
  obtain ⟨tol, g7, q6⟩ := add_bd q5 bl (by decide)
  have p6 := add_pos p5 (pos_rung 118622047889322841 (by decide)) g7 q6
  exact ⟨c2, t3, x3, x1, t7, x7, ay, ks, f5, g, pr, d1, M, ll, k1, a1, mag a1, a3, sc, t1, tol, o, ⟨e1, e2, e3, e4, e5, e6, e7, e8, e9, ea, eb, ec, ed, ee⟩, ⟨g1, g2, rfl, g4, g5, g6, g7, l1, p6⟩,
    ⟨Bd.num d3, Bd.num d4, Bd.num d6, Bd.num d7, Bd.num de⟩, ho, hcase⟩

set_option maxHeartbeats 8000000 in
set_option maxRecDepth 100000 in
theorem law_num {T : Nat → Nat} {x c s c2 t3 x3 x1 t7 x7 ay ks f5 g pr d1 M ll k1 a1 a2 a3 sc t1 tol : Nat} {o : Ordering} (I : Inc c s c2 t3 x3 x1 t7 x7 ay ks f5 g pr d1 M ll) (L : Law s M k1 a1 a2 a3 sc t1 tol)
    (hn : Num x3 ∧ Num x1 ∧ Num x7 ∧ Num ay ∧ Num ll) (nc : Num c) (ns : Num s)
    (ho : FloatKind.f64.format.order d1 4429962474313539354 = some o) (hcase : o = .lt ∧ M = 4429962474313539354 ∨ (o = .gt ∨ o = .eq) ∧ M = d1)
    (hc : ∀ w, Lai T w → Calls Ybad.prog 5 #[.float .f64 x] w fun e w' => e = .returned (.float .f64 c) ∧ ∃ n, w' = w.drewN n)
    (hs : ∀ w, Lai T w → Calls Ybad.prog 6 #[.float .f64 x] w fun e w' => e = .returned (.float .f64 s) ∧ ∃ n, w' = w.drewN n)
    (w : World) (hw : Lai T w) :
    Calls Ybad.prog 3 #[.float .f64 x] w fun e w' => e = .returned (.bool true) ∧ Below w.heap.size w w' := by
  have HI := hide (inc_any I hc hs w hw)
  have HC := hide hc
  have HS := hide hs
  have HW := hide hw
  have H3 := hide hw.size
  obtain ⟨o1, z1, y1⟩ := zero_le_pos (pos_rung 4427486594234968593 (by decide))
  obtain ⟨o2, z2, y2⟩ := zero_le_pos (pos_rung 4382569440205035030 (by decide))
  obtain ⟨o3, z3, y3⟩ := zero_le_pos L.tp
  have E1 := hide (fun w => near_self hn.1 z1 y1 w)
  have E2 := hide (fun w => near_self hn.2.1 z1 y1 w)
  have E3 := hide (fun w => near_self hn.2.2.1 z1 y1 w)
  have E4 := hide (fun w => near_self hn.2.2.2.1 z2 y2 w)
  have E5 := hide (fun w => near_self hn.2.2.2.2 z3 y3 w)
  have F1 := hide (fun w => isNaN_num nc w)
  have F2 := hide (fun w => isNaN_num ns w)
  have F3 := hide (fun w => abs_any a1 L.l1 w)
  rw [L.g3] at F3
  have o4 := order_num nc
  have o5 := order_num ns
  have r1 := r_mul I.e1
  have r2 := r_mul I.e2
  have r3 := r_sub I.e3
  have r4 := r_sub I.e4
  have r5 := r_mul I.e5
  have r6 := r_sub I.e6
  have r7 := r_mul I.e7
  have r8 := r_mul I.e8
  have r9 := r_mul I.e9
  have ra := r_add I.ea
  have rb := r_mul I.eb
  have rc := r_add I.ec
  have re := r_quo I.ee
  have v1 := r_mul L.g1
  have v2 := r_mul L.g2
  have v4 := r_mul L.g4
  have v5 := r_quo L.g5
  have v6 := r_mul L.g6
  have v7 := r_add L.g7
  have v8 := r_mul c_half
  have v9 := r_mul c_quarter
  have hst := r_store
  clear I L hc hs hw hn nc ns z1 z2 z3 y1 y2 y3
  rcases hcase with ⟨rfl, rfl⟩ | ⟨rfl | rfl, rfl⟩
  all_goals
    go_enter Ybad.func3, Ybad.ntmps3
    go_wp2_with fail
    refine HI.out.mono ?_
    rintro e w1 ⟨rfl, hb1⟩
    have HB := hide hb1
    have HL := hide (HW.out.below hb1 H3.out)
    clear hb1
    go_wp2_with fail
    refine (HC.out _ (HL.out.below ((Below.refl _ _).alloc (Nat.le_refl _) _) HL.out.size)).mono ?_
    rintro e w2 ⟨rfl, n1, rfl⟩
    go_wp2_with fail
    refine (HS.out _ (Lai.drewN (HL.out.below ((Below.refl _ _).alloc (Nat.le_refl _) _) HL.out.size) _)).mono ?_
    rintro e w2 ⟨rfl, n2, rfl⟩
    go_wp2_with fail
    refine (F1.out _).mono ?_
    rintro e w2 ⟨rfl, rfl⟩
    go_wp2_with fail
    refine (F2.out _).mono ?_
    rintro e w2 ⟨rfl, rfl⟩
    go_wp2_with fail
    refine (E1.out _).mono ?_
    rintro e w2 ⟨rfl, rfl⟩
    go_wp2_with fail
    refine (E2.out _).mono ?_
    rintro e w2 ⟨rfl, rfl⟩
    go_wp2_with fail
    refine (E3.out _).mono ?_
    rintro e w2 ⟨rfl, rfl⟩
    go_wp2_with fail
    refine (E4.out _).mono ?_
    rintro e w2 ⟨rfl, rfl⟩
    go_wp2_with fail
    refine (F3.out _).mono ?_
    rintro e w2 ⟨rfl, rfl⟩
    go_wp2_with fail
    refine (E5.out _).mono ?_
    rintro e w2 ⟨rfl, rfl⟩
    go_wp2_with fail
    go_ret
    exact ⟨rfl, below_drewN (HB.out.alloc HB.out.size _) _⟩
end Go.Proofs.YbulkwaiDoor
