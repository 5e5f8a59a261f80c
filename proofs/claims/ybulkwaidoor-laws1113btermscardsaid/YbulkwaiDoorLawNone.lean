/- The walk of the law where the cosine and the sine are NaNs. -/
import Derived.Test.YbulkwaiDoorNone
namespace Go.Proofs.YbulkwaiDoor
open Go.RowKit Fl

set_option maxHeartbeats 8000000 in
set_option maxRecDepth 100000 in
theorem law_none {T : Nat → Nat} {x c s : Nat} (nc : Nan c) (ns : Nan s)
    (hc : ∀ w, Lai T w → Calls Ybad.prog 5 #[.float .f64 x] w fun e w' => e = .returned (.float .f64 c) ∧ ∃ n, w' = w.drewN n)
    (hs : ∀ w, Lai T w → Calls Ybad.prog 6 #[.float .f64 x] w fun e w' => e = .returned (.float .f64 s) ∧ ∃ n, w' = w.drewN n)
    (w : World) (hw : Lai T w) :
    Calls Ybad.prog 3 #[.float .f64 x] w fun e w' => e = .returned (.bool true) ∧ Below w.heap.size w w' := by
  have HI := hide (inc_none nc ns hc hs w hw)
  have HC := hide hc
  have HS := hide hs
  have HW := hide hw
  have H3 := hide hw.size
  have F1 := hide (fun w => isNaN_nan nc w)
  have F2 := hide (fun w => isNaN_nan ns w)
  have hst := r_store
  clear hc hs hw nc ns
  go_enter Ybad.func3, Ybad.ntmps3
  go_wp2_with fail
  refine HI.out.mono ?_
  rintro e w1 ⟨⟨x3, x1, x7, ay, ll, m3, m1, m7, ma, ml, rfl⟩, hb1⟩
  have HB := hide hb1
  have HL := hide (HW.out.below hb1 H3.out)
  have E3 := hide (fun w => isNaN_nan m3 w)
  have E1 := hide (fun w => isNaN_nan m1 w)
  have E7 := hide (fun w => isNaN_nan m7 w)
  have EA := hide (fun w => isNaN_nan ma w)
  have EL := hide (fun w => isNaN_nan ml w)
  clear hb1 m3 m1 m7 ma ml
  go_wp2_with fail
  refine (HC.out _ (HL.out.below ((Below.refl _ _).alloc (Nat.le_refl _) _) HL.out.size)).mono ?_
  rintro e w2 ⟨rfl, n1, rfl⟩
  go_wp2_with fail
  refine (HS.out _ (Lai.drewN (HL.out.below ((Below.refl _ _).alloc (Nat.le_refl _) _) HL.out.size) _)).mono ?_
  rintro e w2 ⟨rfl, n2, rfl⟩
  go_wp2_with fail
  refine (F1.out _).mono ?_
  rintro e w2 ⟨rfl, rfl⟩
  go_wp2_with fail
  refine (F1.out _).mono ?_
  rintro e w2 ⟨rfl, rfl⟩
  go_wp2_with fail
  refine (F2.out _).mono ?_
  rintro e w2 ⟨rfl, rfl⟩
  go_wp2_with fail
  refine (E3.out _).mono ?_
  rintro e w2 ⟨rfl, rfl⟩
  go_wp2_with fail
  refine (E1.out _).mono ?_
  rintro e w2 ⟨rfl, rfl⟩
  go_wp2_with fail
  refine (E7.out _).mono ?_
  rintro e w2 ⟨rfl, rfl⟩
  go_wp2_with fail
  refine (EA.out _).mono ?_
  rintro e w2 ⟨rfl, rfl⟩
  go_wp2_with fail
  refine (EL.out _).mono ?_
  rintro e w2 ⟨rfl, rfl⟩
  go_wp2_with fail
  go_ret
  exact ⟨rfl, below_drewN (HB.out.alloc HB.out.size _) _⟩
end Go.Proofs.YbulkwaiDoor
