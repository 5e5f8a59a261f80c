/- The walk of spread at the closure of number 5. -/
import Derived.Test.YbulkwbySpread
namespace Go.Proofs.Ybulkwby
open Go.RowKit Fl
set_option maxHeartbeats 1000000 in
set_option maxRecDepth 100000 in
theorem spread_any5 (f : Nat → Int) (A N : Nat → Nat) (n Bc : Nat) (lg : Nat → Int) (Inv : Nat → World → Prop) (w : World) (m q v : Nat)
    (R : Runs f A N n Bc 5 w.heap.size lg Inv)
    (em : Ieee.double.div (S f n) (ofI n) = some m) (hm : W m) (eq : Ieee.double.div (Q f m n) (ofI n) = some q) (ev : Ieee.double.sqrt q = some v)
    (h0 : Inv 0 (w.alloc (.cells #[.slice (some ⟨A 0, 0, none⟩) (N 0) (N 0), .slice (some ⟨A 1, 0, none⟩) (N 1) (N 1)] 28 (0, 0)))) :
    Calls Yba.prog 6 #[.agg #[.slice (some ⟨A 0, 0, none⟩) (N 0) (N 0), .slice (some ⟨A 1, 0, none⟩) (N 1) (N 1)], .func (.func 5) #[] #[.pointer (some ⟨Bc, 0, none⟩)]] w
      fun e w' => e = .returned (.tuple #[.float .f64 m, .float .f64 v]) ∧ Inv (3 * n) w' := by
  have HR := hide R
  have HM := hide em
  have HW := hide hm
  have HQ := hide eq
  have HV := hide ev
  have H0 := hide h0
  have HB := hide (show w.heap.size = w.heap.size from rfl)
  clear R em hm eq ev h0
  have hle := HR.out.le
  go_enter Yba.func6, Yba.ntmps6
  go_wp2_with fail
  go_loopg [6, 7, 18] 2 (fun g sum cnt idx wr => ∃ k : Nat, k ≤ 2 ∧ g = 2 - k ∧ idx = .int .i64 k ∧ cnt = .int .i64 (Off N k) ∧ sum = .float .f64 (S f (Off N k)) ∧ Hid (Inv (Off N k) wr))
  case atStart => exact ⟨0, by omega, rfl, rfl, rfl, rfl, H0.out⟩
  case round =>
    obtain ⟨k, hk, rfl, rfl, rfl, rfl, hinv⟩ := hrel
    by_cases hlt : k < 2
    · have hlt' : (k : Int) < 2 := by omega
      have hix := fun w => r_index (fun k => .slice (some ⟨A k, 0, none⟩) (N k) (N k)) k hlt w
      have hnk := HR.out.nk hlt
      go_wp2_with fail
      go_loopg [6, 23] (N k) (fun g sum idx wr => ∃ i : Nat, i ≤ N k ∧ g = N k - i ∧ idx = .int .i64 i ∧ sum = .float .f64 (S f (Off N k + i)) ∧ Hid (Inv (Off N k + i) wr))
      case atStart => exact ⟨0, by omega, rfl, rfl, rfl, hinv⟩
      case round =>
        clear hinv
        obtain ⟨i, hi, rfl, rfl, rfl, hinv⟩ := hrel
        by_cases hil : i < N k
        · have hil' : (i : Int) < (N k : Int) := by omega
          have hc := HR.out.cells _ _ k i hinv.out hlt hil
          have ha := fun w => r_add (S_ok HR.out.small (Off N k + i)).2 w
          have hln := HR.out.lt hlt hil
          have hst := HR.out.step _ _ (by omega) hinv.out
          rw [HR.out.l1 _ hln] at hst
          have HST := hide hst
          clear hst
          go_wp2_with fail
          refine HST.out.mono ?_
          rintro e w1 ⟨rfl, hinv1⟩
          have HI := hide hinv1
          clear hinv1
          go_wp2_with fail
          go_roundg (N k - (i + 1))
          case measure => omega
          case rel => exact ⟨i + 1, by omega, rfl, by go_num, rfl, HI.out⟩
        · have hil' : ¬ (i : Int) < (N k : Int) := by omega
          obtain rfl : i = N k := by omega
          go_wp2_with fail
          go_roundg (2 - (k + 1))
          case measure => omega
          case rel => exact ⟨k + 1, by omega, rfl, by go_num, by go_num, rfl, hinv⟩
    · have hlt' : ¬ (k : Int) < 2 := by omega
      obtain rfl : k = 2 := by omega
      rw [HR.out.off] at hinv ⊢
      have hq1 := fun w => r_quo HM.out w
      have hi1 := fun w => r_int (n : Int) w
      have b0 := HR.out.box _ _ 0 hinv.out (by omega)
      have b1 := HR.out.box _ _ 1 hinv.out (by omega)
      go_wp2_with fail
      clear hq1 hi1 b0 b1
      go_loopg [12, 43] 2 (fun g sum idx wr => ∃ k : Nat, k ≤ 2 ∧ g = 2 - k ∧ idx = .int .i64 k ∧ sum = .float .f64 (Q f m (Off N k)) ∧ Hid (Inv (n + 2 * Off N k) wr))
      case atStart => exact ⟨0, by omega, rfl, rfl, rfl, hinv⟩
      case round =>
        clear hinv
        obtain ⟨k, hk, rfl, rfl, rfl, hinv⟩ := hrel
        by_cases hlt : k < 2
        · have hlt' : (k : Int) < 2 := by omega
          have hix := fun w => r_index (fun k => .slice (some ⟨A k, 0, none⟩) (N k) (N k)) k hlt w
          have hnk := HR.out.nk hlt
          go_wp2_with fail
          go_loopg [12, 48] (N k) (fun g sum idx wr => ∃ i : Nat, i ≤ N k ∧ g = N k - i ∧ idx = .int .i64 i ∧ sum = .float .f64 (Q f m (Off N k + i)) ∧ Hid (Inv (n + 2 * (Off N k + i)) wr))
          case atStart => exact ⟨0, by omega, rfl, rfl, rfl, hinv⟩
          case round =>
            clear hinv
            obtain ⟨i, hi, rfl, rfl, rfl, hinv⟩ := hrel
            by_cases hil : i < N k
            · have hil' : (i : Int) < (N k : Int) := by omega
              have hc := HR.out.cells _ _ k i hinv.out hlt hil
              obtain ⟨d, e, s1, s2, s3, _⟩ := Q_step HR.out.small HW.out (Off N k + i) (Q_pos HR.out.small HW.out (Off N k + i))
              have t1 := fun w => r_sub s1 w
              have t2 := fun w => r_mul s2 w
              have t3 := fun w => r_add s3 w
              clear s1 s2 s3
              have hln := HR.out.lt hlt hil
              have hst := HR.out.step _ _ (by omega) hinv.out
              rw [HR.out.l2] at hst
              have HST := hide hst
              clear hst
              go_wp2_with fail
              refine HST.out.mono ?_
              rintro e w1 ⟨rfl, hinv1⟩
              have hst2 := HR.out.step _ _ (by omega) hinv1
              rw [HR.out.l3] at hst2
              have HST2 := hide hst2
              clear hst2 hinv1
              go_wp2_with fail
              refine HST2.out.mono ?_
              rintro e w2 ⟨rfl, hinv2⟩
              have HI := hide hinv2
              clear hinv2
              go_wp2_with fail
              go_roundg (N k - (i + 1))
              case measure => omega
              case rel => exact ⟨i + 1, by omega, rfl, by go_num, rfl, HI.out⟩
            · have hil' : ¬ (i : Int) < (N k : Int) := by omega
              obtain rfl : i = N k := by omega
              go_wp2_with fail
              go_roundg (2 - (k + 1))
              case measure => omega
              case rel => exact ⟨k + 1, by omega, rfl, by go_num, rfl, hinv⟩
        · have hlt' : ¬ (k : Int) < 2 := by omega
          obtain rfl : k = 2 := by omega
          rw [HR.out.off] at hinv ⊢
          have hq1 := fun w => r_quo HQ.out w
          have hi1 := fun w => r_int (n : Int) w
          go_wp2_with fail
          refine (sqrt_any HV.out _).mono ?_
          rintro e w2 ⟨rfl, rfl⟩
          go_wp2_with fail
          go_ret2
          refine ⟨rfl, ?_⟩
          rw [show 3 * n = n + 2 * n by omega]
          exact hinv.out
end Go.Proofs.Ybulkwby
