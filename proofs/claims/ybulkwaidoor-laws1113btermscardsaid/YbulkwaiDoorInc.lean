/- The walk of newInclination. -/
import Derived.Test.YbulkwaiDoorNear
import Derived.Deep.RegionWith
import Derived.Laws.NewBlocks
import Derived.Deep.DeepCutAuto
import Derived.Laws.Cells
namespace Go.Proofs.YbulkwaiDoor
open Go.RowKit Fl

/-- The words of an inclination whose cosine is c and whose sine is s. -/
structure Inc (c s c2 t3 x3 x1 t7 x7 ay ks f5 g pr d1 M ll : Nat) : Prop where
  e1 : Ieee.double.mul c c = some c2
  e2 : Ieee.double.mul 4613937818241073152 c2 = some t3
  e3 : Ieee.double.sub t3 4607182418800017408 = some x3
  e4 : Ieee.double.sub 4607182418800017408 c2 = some x1
  e5 : Ieee.double.mul 4619567317775286272 c2 = some t7
  e6 : Ieee.double.sub t7 4607182418800017408 = some x7
  e7 : Ieee.double.mul 4563050185518949248 s = some ay
  e8 : Ieee.double.mul 4558546585891578752 s = some ks
  e9 : Ieee.double.mul 4617315517961601024 c = some f5
  ea : Ieee.double.add 4613937818241073152 f5 = some g
  eb : Ieee.double.mul ks g = some pr
  ec : Ieee.double.add 4607182418800017408 c = some d1
  ed : pickR d1 4429962474313539354 = M
  ee : Ieee.double.div pr M = some ll

theorem cell_of_row {w : World} {b : Nat} {cs : Array Value} {t : TypeId} (h : w.heap[b]? = some (.cells cs t (0, 0))) (i : Nat) : w.cell? ⟨b, i, none⟩ = cs[i]? := by simp [World.cell?, h]
theorem free_of_row {w : World} {b : Nat} {cs : Array Value} {t : TypeId} (h : w.heap[b]? = some (.cells cs t (0, 0))) (i : Nat) : w.frozen? ⟨b, i, none⟩ = false := by simp [World.frozen?, h]
/-- A float stored. -/
theorem r_store (a : Addr) (b : Nat) (m : Mode) (w : World) : (store a (.float .f64 b) m).run Ybad.prog w = stored Ybad.prog w a (.float .f64 b) m := run_store Ybad.prog w a _ m rfl
theorem row_setCell {w : World} {b : Nat} {cs : Array Value} {t : TypeId} (h : w.heap[b]? = some (.cells cs t (0, 0))) (i : Nat) (u : Value) : (w.setCell ⟨b, i, none⟩ u).heap[b]? = some (.cells (cs.setIfInBounds i u) t (0, 0)) := by
  have hlt : b < w.heap.size := (Array.getElem?_eq_some_iff.1 h).1
  simp [World.setCell, Array.getElem?_modify, h]
/-- Seven zeros written over. -/
theorem row_seven {w : World} {b : Nat} (h : w.heap[b]? = some (.cells #[.float .f64 0, .float .f64 0, .float .f64 0, .float .f64 0, .float .f64 0, .float .f64 0, .float .f64 0] 24 (0, 0))) (v0 v1 v2 v3 v4 v5 v6 : Value) :
    (((((((w.setCell ⟨b, 0, none⟩ v0).setCell ⟨b, 1, none⟩ v1).setCell ⟨b, 2, none⟩ v2).setCell ⟨b, 3, none⟩ v3).setCell ⟨b, 4, none⟩ v4).setCell ⟨b, 5, none⟩ v5).setCell ⟨b, 6, none⟩ v6).heap[b]? = some (.cells #[v0, v1, v2, v3, v4, v5, v6] 24 (0, 0)) :=
  row_setCell (row_setCell (row_setCell (row_setCell (row_setCell (row_setCell (row_setCell h 0 v0) 1 v1) 2 v2) 3 v3) 4 v4) 5 v5) 6 v6
theorem below_seven {B b : Nat} {w0 w : World} (h : Below B w0 w) (hb : B ≤ b) (v0 v1 v2 v3 v4 v5 v6 : Value) :
    Below B w0 (((((((w.setCell ⟨b, 0, none⟩ v0).setCell ⟨b, 1, none⟩ v1).setCell ⟨b, 2, none⟩ v2).setCell ⟨b, 3, none⟩ v3).setCell ⟨b, 4, none⟩ v4).setCell ⟨b, 5, none⟩ v5).setCell ⟨b, 6, none⟩ v6) :=
  ((((((h.setCell (p := ⟨b, 0, none⟩) hb v0).setCell (p := ⟨b, 1, none⟩) hb v1).setCell (p := ⟨b, 2, none⟩) hb v2).setCell (p := ⟨b, 3, none⟩) hb v3).setCell (p := ⟨b, 4, none⟩) hb v4).setCell (p := ⟨b, 5, none⟩) hb v5).setCell (p := ⟨b, 6, none⟩) hb v6
theorem info24 : (Ybad.prog.info? 24).map (·.size) = some 7 := by kernel_rfl
theorem Lai.below {T : Nat → Nat} {B : Nat} {w w' : World} (h : Lai T w) (hb : Below B w w') (h3 : 3 < B) : Lai T w' := by
  have key : ∀ b k, b < B → w'.cell? ⟨b, k, none⟩ = w.cell? ⟨b, k, none⟩ := fun b k hk => hb.cell (p := ⟨b, k, none⟩) hk
  exact ⟨(key _ _ (by omega)).trans h.s0, (key _ _ (by omega)).trans h.s1, (key _ _ (by omega)).trans h.s2, (key _ _ (by omega)).trans h.s3, (key _ _ (by omega)).trans h.s4, (key _ _ (by omega)).trans h.s5,
    (key _ _ (by omega)).trans h.c0, (key _ _ (by omega)).trans h.c1, (key _ _ (by omega)).trans h.c2, (key _ _ (by omega)).trans h.c3, (key _ _ (by omega)).trans h.c4, (key _ _ (by omega)).trans h.c5,
    fun k hk => (key _ _ (by omega)).trans (h.t k hk)⟩
theorem Lai.size {T : Nat → Nat} {w : World} (h : Lai T w) : 3 < w.heap.size := by
  exact World.block_lt_of_cell? _ _ (h.t 0 (by omega))

set_option maxHeartbeats 4000000 in
set_option maxRecDepth 100000 in
theorem inc_any {T : Nat → Nat} {x c s c2 t3 x3 x1 t7 x7 ay ks f5 g pr d1 M ll : Nat} (I : Inc c s c2 t3 x3 x1 t7 x7 ay ks f5 g pr d1 M ll)
    (hc : ∀ w, Lai T w → Calls Ybad.prog 5 #[.float .f64 x] w fun e w' => e = .returned (.float .f64 c) ∧ ∃ n, w' = w.drewN n)
    (hs : ∀ w, Lai T w → Calls Ybad.prog 6 #[.float .f64 x] w fun e w' => e = .returned (.float .f64 s) ∧ ∃ n, w' = w.drewN n)
    (w : World) (hw : Lai T w) :
    Calls Ybad.prog 4 #[.float .f64 x] w fun e w' => e = .returned (.agg #[.float .f64 c, .float .f64 s, .float .f64 x3, .float .f64 x1, .float .f64 x7, .float .f64 ay, .float .f64 ll]) ∧ Below w.heap.size w w' := by
  have HC := hide hc
  have HS := hide hs
  have HW := hide hw
  have H3 := hide hw.size
  have r1 := r_mul I.e1
  have r2 := r_mul I.e2
  have r3 := r_sub I.e3
  have r4 := r_sub I.e4
  have r5 := r_mul I.e5
  have r6 := r_sub I.e6
  have r7 := r_mul I.e7
  have r8 := r_mul I.e8
  have r9 := r_mul I.e9
  have ra := r_add I.ea
  have rb := r_mul I.eb
  have rc := r_add I.ec
  have re := r_quo I.ee
  have HM := hide (max_any d1 4429962474313539354)
  rw [I.ed] at HM
  have hst := r_store
  clear I hc hs hw
  go_enter Ybad.func4, Ybad.ntmps4
  go_wp2_with fail
  refine (HC.out _ (HW.out.below ((Below.refl _ _).alloc (Nat.le_refl _) _) H3.out)).mono ?_
  rintro e w1 ⟨rfl, n1, rfl⟩
  go_wp2_with fail
  refine (HS.out _ (Lai.drewN (HW.out.below ((Below.refl _ _).alloc (Nat.le_refl _) _) H3.out) _)).mono ?_
  rintro e w1 ⟨rfl, n2, hw1⟩
  have hrow : w1.heap[w.heap.size]? = some (.cells #[.float .f64 0, .float .f64 0, .float .f64 0, .float .f64 0, .float .f64 0, .float .f64 0, .float .f64 0] 24 (0, 0)) := by rw [hw1]; exact heap_alloc_new _ _
  have hbel : Below w.heap.size w w1 := by rw [hw1]; exact below_drewN (below_drewN ((Below.refl _ _).alloc (Nat.le_refl _) _) _) _
  have hsz : w1.heap.size = w.heap.size + 1 := by rw [hw1]; exact World.size_alloc _ _
  clear hw1
  obtain ⟨b0, hb0⟩ : ∃ b, b = w.heap.size := ⟨_, rfl⟩
  simp only [← hb0] at hrow hbel hsz ⊢
  have HB := hide hbel
  have HZ := hide hsz
  have H0 := hide hb0
  have HR := hide hrow
  have cc : ∀ k, k < 7 → w1.cell? ⟨b0, k, none⟩ = some (.float .f64 0) := by
    intro k hk
    rw [cell_of_row hrow]
    obtain rfl | rfl | rfl | rfl | rfl | rfl | rfl : k = 0 ∨ k = 1 ∨ k = 2 ∨ k = 3 ∨ k = 4 ∨ k = 5 ∨ k = 6 := by omega
    all_goals rfl
  have k0 := cc 0 (by omega)
  have k1 := cc 1 (by omega)
  have k2 := cc 2 (by omega)
  have k3 := cc 3 (by omega)
  have k4 := cc 4 (by omega)
  have k5 := cc 5 (by omega)
  have k6 := cc 6 (by omega)
  have q0 := free_of_row hrow 0
  have q1 := free_of_row hrow 1
  have q2 := free_of_row hrow 2
  have q3 := free_of_row hrow 3
  have q4 := free_of_row hrow 4
  have q5 := free_of_row hrow 5
  have q6 := free_of_row hrow 6
  have hlt : b0 < w1.heap.size := by omega
  clear hrow hbel hsz hb0 cc
  go_upto_region 5 with fail
  go_cut [] (fun wc => ∃ n, wc = (w1.alloc (.cells #[.float .f64 c, .float .f64 s, .float .f64 x3, .float .f64 x1, .float .f64 x7, .float .f64 ay, .float .f64 ll] 24)).drewN n)
  case first =>
    clear r1 r2 r3 r4 r5 r6 r7
    go_region_with (go_at_call 10; refine (HM.out _).mono ?_; rintro e w2 ⟨rfl, rfl⟩)
    all_goals (go_wp2_with fail; go_meet; exact ⟨1, rfl⟩)
  case rest =>
    obtain ⟨n, rfl⟩ := hcut
    go_wp2_with fail
    have hrow : ((w1.alloc (.cells #[.float .f64 c, .float .f64 s, .float .f64 x3, .float .f64 x1, .float .f64 x7, .float .f64 ay, .float .f64 ll] 24)).drewN n).heap[b0]? = some (.cells #[.float .f64 0, .float .f64 0, .float .f64 0, .float .f64 0, .float .f64 0, .float .f64 0, .float .f64 0] 24 (0, 0)) :=
      (Below.heap_alloc w1 _ b0 hlt).trans HR.out
    refine bodyPost_ret_by (results_cell_row rfl _ _ b0 24 _ (0, 0) _ rfl (row_seven hrow _ _ _ _ _ _ _) Ybad.underlying24 rfl info24) rfl ⟨rfl, ?_⟩
    rw [← H0.out]
    exact below_seven (below_drewN (HB.out.alloc (Nat.le_of_lt hlt) _) n) (Nat.le_refl _) _ _ _ _ _ _ _
end Go.Proofs.YbulkwaiDoor
