/- The walk of newInclination where the cosine and the sine are NaNs. -/
import Derived.Test.YbulkwaiDoorInc
import Derived.Deep.RegionHeld3
namespace Go.Proofs.YbulkwaiDoor
open Go.RowKit Fl

/-- The NaN that the tape gives. -/
def nanOf (x y : Nat) (w : World) : Nat := (Question.nanBits .f64 x y).cut (w.tape w.drawn (.nanBits .f64 x y))
theorem nan_bits (t : Nat) : Nan ((t % 2) * 9223372036854775808 + 9218868437227405312 + 1 + (t / 2) % 4503599627370495) := by
  obtain ⟨a, ha⟩ : ∃ a, a = t % 2 := ⟨_, rfl⟩
  obtain ⟨b, hb⟩ : ∃ b, b = (t / 2) % 4503599627370495 := ⟨_, rfl⟩
  have ha2 : a < 2 := by omega
  have hb2 : b < 4503599627370495 := by omega
  rw [← ha, ← hb]
  clear ha hb
  exact read_nan _ (by unfold mag; omega)
theorem nanOf_nan (x y : Nat) (w : World) : Nan (nanOf x y w) := nan_bits _
theorem mul_none {x y : Nat} (h : Nan x ∨ Nan y) : FloatKind.f64.format.mul x y = none := by
  show Ieee.double.mul x y = none
  unfold Ieee.Format.mul
  rcases h with ⟨s, t, h⟩ | ⟨s, t, h⟩
  · rw [h]; rfl
  · rw [h]; cases Ieee.double.read x <;> rfl
theorem add_none {x y : Nat} (h : Nan x ∨ Nan y) : FloatKind.f64.format.add x y = none := by
  show Ieee.double.add x y = none
  unfold Ieee.Format.add
  rcases h with ⟨s, t, h⟩ | ⟨s, t, h⟩
  · rw [h]; rfl
  · rw [h]; cases Ieee.double.read x <;> rfl
theorem sub_none {x y : Nat} (h : Nan x ∨ Nan y) : FloatKind.f64.format.sub x y = none := by
  show Ieee.double.sub x y = none
  unfold Ieee.Format.sub
  rcases h with ⟨s, t, h⟩ | ⟨s, t, h⟩
  · rw [h]; rfl
  · rw [h]; cases Ieee.double.read x <;> rfl
theorem div_none {x y : Nat} (h : Nan x ∨ Nan y) : FloatKind.f64.format.div x y = none := by
  show Ieee.double.div x y = none
  unfold Ieee.Format.div
  rcases h with ⟨s, t, h⟩ | ⟨s, t, h⟩
  · rw [h]; rfl
  · rw [h]; cases Ieee.double.read x <;> rfl
theorem n_mul {x y : Nat} (h : Nan x ∨ Nan y) (w : World) : (binOp .mul 22 (.float .f64 x) (.float .f64 y)).run Ybad.prog w = .ok (.float .f64 (nanOf x y w)) w.drew := by
  simp [binOp, Op.floatArith, mul_none h, Question.forced, nanOf]
theorem n_add {x y : Nat} (h : Nan x ∨ Nan y) (w : World) : (binOp .add 22 (.float .f64 x) (.float .f64 y)).run Ybad.prog w = .ok (.float .f64 (nanOf x y w)) w.drew := by
  simp [binOp, Op.floatArith, add_none h, Question.forced, nanOf]
theorem n_sub {x y : Nat} (h : Nan x ∨ Nan y) (w : World) : (binOp .sub 22 (.float .f64 x) (.float .f64 y)).run Ybad.prog w = .ok (.float .f64 (nanOf x y w)) w.drew := by
  simp [binOp, Op.floatArith, sub_none h, Question.forced, nanOf]
theorem n_quo {x y : Nat} (h : Nan x ∨ Nan y) (w : World) : (binOp .quo 22 (.float .f64 x) (.float .f64 y)).run Ybad.prog w = .ok (.float .f64 (nanOf x y w)) w.drew := by
  simp [binOp, Op.floatArith, div_none h, Question.forced, nanOf]

set_option maxHeartbeats 8000000 in
set_option maxRecDepth 100000 in
theorem inc_none {T : Nat → Nat} {x c s : Nat} (nc : Nan c) (ns : Nan s)
    (hc : ∀ w, Lai T w → Calls Ybad.prog 5 #[.float .f64 x] w fun e w' => e = .returned (.float .f64 c) ∧ ∃ n, w' = w.drewN n)
    (hs : ∀ w, Lai T w → Calls Ybad.prog 6 #[.float .f64 x] w fun e w' => e = .returned (.float .f64 s) ∧ ∃ n, w' = w.drewN n)
    (w : World) (hw : Lai T w) :
    Calls Ybad.prog 4 #[.float .f64 x] w fun e w' => (∃ x3 x1 x7 ay ll, Nan x3 ∧ Nan x1 ∧ Nan x7 ∧ Nan ay ∧ Nan ll ∧ e = .returned (.agg #[.float .f64 c, .float .f64 s, .float .f64 x3, .float .f64 x1, .float .f64 x7, .float .f64 ay, .float .f64 ll])) ∧ Below w.heap.size w w' := by
  have HC := hide hc
  have HS := hide hs
  have HW := hide hw
  have H3 := hide hw.size
  have NC := hide nc
  have NS := hide ns
  have HN := hide nanOf_nan
  have hst := r_store
  have sd : ∀ (W : World) (n : Nat) (a : Addr) (v : Value), (W.drewN n).setCell a v = (W.setCell a v).drewN n := fun _ _ _ _ => rfl
  clear hc hs hw nc ns
  go_enter Ybad.func4, Ybad.ntmps4
  go_wp2_with fail
  refine (HC.out _ (HW.out.below ((Below.refl _ _).alloc (Nat.le_refl _) _) H3.out)).mono ?_
  rintro e w1 ⟨rfl, n1, rfl⟩
  go_wp2_with fail
  refine (HS.out _ (Lai.drewN (HW.out.below ((Below.refl _ _).alloc (Nat.le_refl _) _) H3.out) _)).mono ?_
  rintro e w1 ⟨rfl, n2, hw1⟩
  have hrow : w1.heap[w.heap.size]? = some (.cells #[.float .f64 0, .float .f64 0, .float .f64 0, .float .f64 0, .float .f64 0, .float .f64 0, .float .f64 0] 24 (0, 0)) := by rw [hw1]; exact heap_alloc_new _ _
  have hbel : Below w.heap.size w w1 := by rw [hw1]; exact below_drewN (below_drewN ((Below.refl _ _).alloc (Nat.le_refl _) _) _) _
  have hsz : w1.heap.size = w.heap.size + 1 := by rw [hw1]; exact World.size_alloc _ _
  clear hw1
  obtain ⟨b0, hb0⟩ : ∃ b, b = w.heap.size := ⟨_, rfl⟩
  simp only [← hb0] at hrow hbel hsz ⊢
  have HB := hide hbel
  have HZ := hide hsz
  have H0 := hide hb0
  have HR := hide hrow
  have cc : ∀ k, k < 7 → w1.cell? ⟨b0, k, none⟩ = some (.float .f64 0) := by
    intro k hk
    rw [cell_of_row hrow]
    obtain rfl | rfl | rfl | rfl | rfl | rfl | rfl : k = 0 ∨ k = 1 ∨ k = 2 ∨ k = 3 ∨ k = 4 ∨ k = 5 ∨ k = 6 := by omega
    all_goals rfl
  have k0 := cc 0 (by omega)
  have k1 := cc 1 (by omega)
  have k2 := cc 2 (by omega)
  have k3 := cc 3 (by omega)
  have k4 := cc 4 (by omega)
  have k5 := cc 5 (by omega)
  have k6 := cc 6 (by omega)
  have q0 := free_of_row hrow 0
  have q1 := free_of_row hrow 1
  have q2 := free_of_row hrow 2
  have q3 := free_of_row hrow 3
  have q4 := free_of_row hrow 4
  have q5 := free_of_row hrow 5
  have q6 := free_of_row hrow 6
  have hlt : b0 < w1.heap.size := by omega
  clear hrow hbel hsz hb0 cc
  go_upto_region 2 with fail
  go_cut [4] (fun s4 wc => ∃ v n, Nan v ∧ s4 = .float .f64 v ∧ wc = (w1.alloc (.cells #[.float .f64 c, .float .f64 s, .float .f64 0, .float .f64 0, .float .f64 0, .float .f64 0, .float .f64 0] 24)).drewN n)
  case first =>
    have r1 := n_mul (x := c) (y := c) (.inl NC.out)
    go_wp2_with fail
    go_meet
    exact ⟨_, 1, HN.out _ _ _, rfl, rfl⟩
  case rest =>
    obtain ⟨c2, n, nc2, rfl, rfl⟩ := hcut
    have N2 := hide nc2
    clear nc2
    go_upto_region 3 with fail
    go_cut [] (fun wc => ∃ x3 x1 x7 n, Nan x3 ∧ Nan x1 ∧ Nan x7 ∧ wc = (w1.alloc (.cells #[.float .f64 c, .float .f64 s, .float .f64 x3, .float .f64 x1, .float .f64 x7, .float .f64 0, .float .f64 0] 24)).drewN n)
    case first =>
      have r1 := n_mul (x := 4613937818241073152) (y := c2) (.inr N2.out)
      have r2 : ∀ (a b y : Nat) (u w : World), (binOp .sub 22 (.float .f64 (nanOf a b u)) (.float .f64 y)).run Ybad.prog w = .ok (.float .f64 (nanOf (nanOf a b u) y w)) w.drew := fun a b y u w => n_sub (.inl (HN.out _ _ _)) w
      have r3 := n_sub (x := 4607182418800017408) (y := c2) (.inr N2.out)
      have r4 := n_mul (x := 4619567317775286272) (y := c2) (.inr N2.out)
      go_wp2_with fail
      go_meet
      exact ⟨_, _, _, _, HN.out _ _ _, HN.out _ _ _, HN.out _ _ _, rfl⟩
    case rest =>
      obtain ⟨x3, x1, x7, n', n3, n1', n7, rfl⟩ := hcut
      have N3 := hide n3
      have N1 := hide n1'
      have N7 := hide n7
      clear n3 n1' n7
      go_upto_region 4 with fail
      go_cut [] (fun wc => ∃ ay n, Nan ay ∧ wc = (w1.alloc (.cells #[.float .f64 c, .float .f64 s, .float .f64 x3, .float .f64 x1, .float .f64 x7, .float .f64 ay, .float .f64 0] 24)).drewN n)
      case first =>
        have r1 := n_mul (x := 4563050185518949248) (y := s) (.inr NS.out)
        go_wp2_with fail
        go_meet
        exact ⟨_, _, HN.out _ _ _, rfl⟩
      case rest =>
        rename World => W
        obtain ⟨ay, n4, na, hW⟩ := hcut
        have NA := hide na
        clear na
        have g0 : W.cell? ⟨w1.heap.size, 0, none⟩ = some (.float .f64 c) := by rw [hW]; exact World.cell?_alloc_at _ _ _ _ rfl
        have g1 : W.cell? ⟨w1.heap.size, 1, none⟩ = some (.float .f64 s) := by rw [hW]; exact World.cell?_alloc_at _ _ _ _ rfl
        have g6 : W.cell? ⟨w1.heap.size, 6, none⟩ = some (.float .f64 0) := by rw [hW]; exact World.cell?_alloc_at _ _ _ _ rfl
        have gf : W.frozen? ⟨w1.heap.size, 6, none⟩ = false := by rw [hW]; exact World.frozen?_alloc_at _ _ _ _ rfl
        have h60 : ∀ v, (W.setCell ⟨w1.heap.size, 6, none⟩ v).cell? ⟨w1.heap.size, 0, none⟩ = some (.float .f64 c) := fun v => by
          rw [hW, sd, World.setCell_alloc_at _ _ _ _ _ rfl]
          exact World.cell?_alloc_at _ _ _ _ rfl
        have h61 : ∀ v, (W.setCell ⟨w1.heap.size, 6, none⟩ v).cell? ⟨w1.heap.size, 1, none⟩ = some (.float .f64 s) := fun v => by
          rw [hW, sd, World.setCell_alloc_at _ _ _ _ _ rfl]
          exact World.cell?_alloc_at _ _ _ _ rfl
        have HV := hide hW
        clear hW
        go_upto_region 5 with fail
        go_cut [] (fun wd => ∃ ll n, Nan ll ∧ wd = (W.setCell ⟨w1.heap.size, 6, none⟩ (.float .f64 ll)).drewN n)
        case first =>
          have r1 := n_mul (x := 4558546585891578752) (y := s) (.inr NS.out)
          have r2 := n_mul (x := 4617315517961601024) (y := c) (.inr NC.out)
          have r3 : ∀ (a b x : Nat) (u w : World), (binOp .add 22 (.float .f64 x) (.float .f64 (nanOf a b u))).run Ybad.prog w = .ok (.float .f64 (nanOf x (nanOf a b u) w)) w.drew := fun a b x u w => n_add (.inr (HN.out _ _ _)) w
          have r4 : ∀ (a b y : Nat) (u w : World), (binOp .mul 22 (.float .f64 (nanOf a b u)) (.float .f64 y)).run Ybad.prog w = .ok (.float .f64 (nanOf (nanOf a b u) y w)) w.drew := fun a b y u w => n_mul (.inl (HN.out _ _ _)) w
          have r5 := n_add (x := 4607182418800017408) (y := c) (.inr NC.out)
          have r6 : ∀ (a b y : Nat) (u w : World), (binOp .quo 22 (.float .f64 (nanOf a b u)) (.float .f64 y)).run Ybad.prog w = .ok (.float .f64 (nanOf (nanOf a b u) y w)) w.drew := fun a b y u w => n_quo (.inl (HN.out _ _ _)) w
          clear k0 k1 k2 k3 k4 k5 k6 q0 q1 q2 q3 q4 q5 q6 hlt
          go_region_held (fun w' => w'.cell? ⟨w1.heap.size, 0, none⟩ = some (.float .f64 c) ∧ w'.cell? ⟨w1.heap.size, 1, none⟩ = some (.float .f64 s)) (first | (refine ⟨?_, ?_⟩ <;> assumption) | go_keep) (first | (go_at_call 10; refine (max_any _ _ _).mono ?_; rintro e w2 ⟨rfl, rfl⟩))
          all_goals (go_wp2_with fail; go_meet; exact ⟨_, 7, HN.out _ _ _, rfl⟩)
        case rest =>
          obtain ⟨ll, n5, nl, hwd⟩ := hcut
          have NL := hide nl
          rw [HV.out, sd, World.setCell_alloc_at _ _ _ _ _ rfl, World.drewN_drewN] at hwd
          have hwd' : wc = (w1.alloc (.cells #[.float .f64 c, .float .f64 s, .float .f64 x3, .float .f64 x1, .float .f64 x7, .float .f64 ay, .float .f64 ll] 24)).drewN (n4 + n5) := hwd
          clear hwd nl g0 g1 g6 gf h60 h61 HV
          subst hwd'
          generalize n4 + n5 = n6
          go_wp2_with fail
          have hX := row_seven HR.out (.float .f64 c) (.float .f64 s) (.float .f64 x3) (.float .f64 x1) (.float .f64 x7) (.float .f64 ay) (.float .f64 ll)
          have hL := (Array.getElem?_eq_some_iff.1 hX).1
          refine bodyPost_ret_by (results_cell_row rfl _ _ b0 24 _ (0, 0) _ rfl ((Below.heap_alloc _ _ b0 hL).trans hX) Ybad.underlying24 rfl info24) rfl ⟨⟨_, _, _, _, _, N3.out, N1.out, N7.out, NA.out, NL.out, rfl⟩, ?_⟩
          rw [← H0.out]
          exact below_drewN ((below_seven HB.out (Nat.le_refl _) _ _ _ _ _ _ _).alloc (Nat.le_of_lt hL) _) n6
end Go.Proofs.YbulkwaiDoor
