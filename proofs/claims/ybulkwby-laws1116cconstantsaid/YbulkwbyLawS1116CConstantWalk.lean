/- The walk of the law over one value. -/
import Derived.Test.YbulkwbyConst
namespace Go.Proofs.Ybulkwby.lawS1116CConstant
open Go.RowKit Fl Go.Deep Go.Proofs.Ybulkwby

theorem info23 : (Yba.prog.info? 23).map (fun i => (i.zero, i.size, i.bytes)) = some (some (.int .i8 0), 1, 1) := by kernel_rfl
set_option maxHeartbeats 400000 in
theorem none_walk (a0 : Int) (w : World) :
    Calls Yba.prog 4 #[.int .i8 a0, .int .u8 0, .int .u8 0] w fun e w' => e = .returned (.bool true) ∧ Below w.heap.size w w' := by
  go_enter Yba.func4, Yba.ntmps4
  go_wp2
  go_ret
  exact ⟨rfl, Below.refl _ _⟩

/-- The world ahead of the call of spread. -/
structure Ready (c : Int) (a0 a1 n0 n1 : Nat) (w0 wr w3 : World) : Prop where
  bc : wr.heap.size < w3.heap.size
  ci : CI c a0 a1 n0 n1 wr.heap.size w3.heap.size w0 0 (w3.alloc (.cells #[.slice (some ⟨a0, 0, none⟩) n0 n0, .slice (some ⟨a1, 0, none⟩) n1 n1] 28 (0, 0)))
theorem facts (c : Int) (a0 a1 n0 n1 : Nat) (w0 wr w3 : World) (cur cur1 : List Value)
    (hw : w3 = wr.alloc (.cells #[.int .i64 0] 3 (0, 0))) (h01 : a0 < a1) (h1 : a1 < wr.heap.size)
    (r0 : wr.heap[a0]? = some (.cells cur.toArray 23 (0, 0))) (r1 : wr.heap[a1]? = some (.cells cur1.toArray 23 (0, 0)))
    (c0 : ∀ j, j < n0 → cur[j]? = some (.int .i8 c)) (c1 : ∀ j, j < n1 → cur1[j]? = some (.int .i8 c)) (hb : Below w0.heap.size w0 wr) : Ready c a0 a1 n0 n1 w0 wr w3 := by
  have hs : w3.heap.size = wr.heap.size + 1 := by rw [hw, World.size_alloc]
  have hbc : w3.heap[wr.heap.size]? = some (.cells #[.int .i64 0] 3 (0, 0)) := by rw [hw]; exact heap_alloc_new _ _
  have hold : ∀ a, a < wr.heap.size → w3.heap[a]? = wr.heap[a]? := fun a ha => by rw [hw]; exact Below.heap_alloc _ _ _ ha
  have hnew : ∀ (o : Obj) a, a < w3.heap.size → (w3.alloc o).heap[a]? = w3.heap[a]? := fun o a ha => Below.heap_alloc _ _ _ ha
  have hb3 : Below w0.heap.size w0 w3 := by rw [hw]; exact hb.alloc hb.size _
  refine ⟨by omega, ?_, ?_, ?_, ?_, ?_, hb3.alloc hb3.size _⟩
  · intro i hi
    rw [cell_of_row ((hnew _ _ (by omega)).trans ((hold _ (by omega)).trans r0))]
    simpa using c0 i hi
  · intro i hi
    rw [cell_of_row ((hnew _ _ (by omega)).trans ((hold _ (by omega)).trans r1))]
    simpa using c1 i hi
  · exact (hnew _ _ (by omega)).trans hbc
  · rw [cell_of_row (heap_alloc_new _ _)]; rfl
  · rw [cell_of_row (heap_alloc_new _ _)]; rfl

set_option maxHeartbeats 2000000 in
theorem some_walk (c : Int) (n0 n1 : Nat) (w : World) (hc : -128 ≤ c ∧ c ≤ 127) (h0 : n0 ≤ 255) (h1 : n1 ≤ 255) (hn : n0 + n1 ≠ 0) :
    Calls Yba.prog 4 #[.int .i8 c, .int .u8 n0, .int .u8 n1] w fun e w' => e = .returned (.bool true) ∧ Below w.heap.size w w' := by
  have hmk := fun w => run_make_row' (P := Yba.prog) 22 23 (.int .i8 0) 1 Yba.underlying22 info23 rfl .i64 .i64 n0 (by omega) (by omega) w
  obtain ⟨Z, hZd⟩ : ∃ Z : List Value, Z.toArray = madeCells #[.int .i8 0] n0 := ⟨(madeCells #[.int .i8 0] n0).toList, by simp⟩
  have hZ : Z.length = n0 := by have := congrArg Array.size hZd; rw [size_madeCells] at this; simpa using this
  rw [← hZd] at hmk
  have HC := hide hc
  clear hc hZd
  have hn' : ¬ ((n0 : Int) + (n1 : Int) = 0) := by omega
  have HN := hide hn
  clear hn
  go_enter Yba.func4, Yba.ntmps4
  go_wp2
  go_loopw [8] (fun i wr => ∃ (k : Nat) (cur : List Value), k ≤ n0 ∧ i = .int .i64 k ∧ wr.heap[w.heap.size]? = some (.cells cur.toArray 23 (0, 0)) ∧ cur.length = n0 ∧ (∀ j, j < k → cur[j]? = some (.int .i8 c)) ∧ Below w.heap.size w wr) (fun i _ => n0 - (intOf i).toNat)
  case atStart => exact ⟨0, Z, Nat.zero_le _, rfl, heap_alloc_new _ _, hZ, fun j hj => by omega, (Below.refl _ _).alloc (Nat.le_refl _) _⟩
  case round =>
    obtain ⟨k, cur, hk, rfl, hh, hcl, hcells, hbel⟩ := hrel
    clear hmk hZ
    have HH := hide hh
    have HCC := hide hcells
    have HBE := hide hbel
    by_cases hlt : k < n0
    · have g2 : ∃ v, wr.cell? ⟨w.heap.size, k, none⟩ = some v := by rw [cell_of_row hh]; exact ⟨cur[k]'(by omega), by simp [show k < cur.length by omega]⟩
      obtain ⟨v, g2⟩ := g2
      have g3 : wr.frozen? ⟨w.heap.size, k, none⟩ = false := free_of_row hh k
      have hlt' : (k : Int) < (n0 : Int) := by omega
      clear hh hcells hbel
      go_wp2
      go_roundw
      case rel =>
        refine ⟨k + 1, cur.set k (.int .i8 c), by omega, by go_num, ?_, by simpa using hcl, ?_, HBE.out.setCell (p := ⟨w.heap.size, k, none⟩) (Nat.le_refl _) _⟩
        · rw [row_setCell HH.out]; simp
        · intro j hj
          by_cases e : j = k
          · subst e; simp [show j < cur.length by omega]
          · rw [List.getElem?_set_ne (by omega)]; exact HCC.out j (by omega)
      case measure => simp [intOf]; omega
    · obtain rfl : k = n0 := by omega
      have hsize : w.heap.size < wr.heap.size := (Array.getElem?_eq_some_iff.1 hh).1
      clear hh hcells hbel
      rename World => wa
      have hlt' : ¬ (k : Int) < (k : Int) := by omega
      have hmk := fun w => run_make_row' (P := Yba.prog) 22 23 (.int .i8 0) 1 Yba.underlying22 info23 rfl .i64 .i64 n1 (by omega) (by omega) w
      obtain ⟨Z, hZd⟩ : ∃ Z : List Value, Z.toArray = madeCells #[.int .i8 0] n1 := ⟨(madeCells #[.int .i8 0] n1).toList, by simp⟩
      have hZ : Z.length = n1 := by have := congrArg Array.size hZd; rw [size_madeCells] at this; simpa using this
      rw [← hZd] at hmk
      clear hZd
      go_wp2
      go_loopw [10] (fun i w2 => ∃ (j : Nat) (cur1 : List Value), j ≤ n1 ∧ i = .int .i64 j ∧ w2.heap[w.heap.size]? = some (.cells cur.toArray 23 (0, 0)) ∧ w2.heap[wa.heap.size]? = some (.cells cur1.toArray 23 (0, 0)) ∧ cur1.length = n1 ∧ (∀ i, i < j → cur1[i]? = some (.int .i8 c)) ∧ Below w.heap.size w w2) (fun i _ => n1 - (intOf i).toNat)
      case atStart => exact ⟨0, Z, Nat.zero_le _, rfl, (Below.heap_alloc _ _ _ hsize).trans HH.out, heap_alloc_new _ _, hZ, fun j hj => by omega, HBE.out.alloc (Nat.le_of_lt hsize) _⟩
      case round =>
        clear hmk hZ HH HBE
        obtain ⟨j, cur1, hj, rfl, hh0, hh, hcl1, hcells, hbel⟩ := hrel
        have HH := hide hh
        have HH0 := hide hh0
        have HCC1 := hide hcells
        have HBE := hide hbel
        clear hh0
        by_cases hlt : j < n1
        · have g2 : ∃ v, wr.cell? ⟨wa.heap.size, j, none⟩ = some v := by rw [cell_of_row hh]; exact ⟨cur1[j]'(by omega), by simp [show j < cur1.length by omega]⟩
          obtain ⟨v, g2⟩ := g2
          have g3 : wr.frozen? ⟨wa.heap.size, j, none⟩ = false := free_of_row hh j
          have hlt' : (j : Int) < (n1 : Int) := by omega
          clear hh hcells hbel
          go_wp2
          go_roundw
          case rel =>
            refine ⟨j + 1, cur1.set j (.int .i8 c), by omega, by go_num, ?_, ?_, by simpa using hcl1, ?_, HBE.out.setCell (p := ⟨wa.heap.size, j, none⟩) (Nat.le_of_lt hsize) _⟩
            · rw [row_other (Nat.ne_of_lt hsize)]; exact HH0.out
            · rw [row_setCell HH.out]; simp
            · intro i hi
              by_cases e : i = j
              · subst e; simp [show i < cur1.length by omega]
              · rw [List.getElem?_set_ne (by omega)]; exact HCC1.out i (by omega)
          case measure => simp [intOf]; omega
        · obtain rfl : j = n1 := by omega
          have hs2 : wa.heap.size < wr.heap.size := (Array.getElem?_eq_some_iff.1 hh).1
          clear hh hcells hbel
          have hlt2 : ¬ (j : Int) < (j : Int) := by omega
          have q0 : (wr.alloc (.cells #[.int .i64 0] 3 (0, 0))).frozen? ⟨wr.heap.size, 0, none⟩ = false := free_of_row (heap_alloc_new _ _) 0
          obtain ⟨w3, hw3⟩ : ∃ w3, w3 = wr.alloc (.cells #[.int .i64 0] 3 (0, 0)) := ⟨_, rfl⟩
          have HF := hide (facts c w.heap.size wa.heap.size k j w wr w3 cur cur1 hw3 hsize hs2 HH0.out HH.out HCC.out HCC1.out HBE.out)
          have HW3 := hide hw3
          clear hw3
          go_wp2_with fail
          rw [← HW3.out]
          refine (spread_const c HC.out w.heap.size wa.heap.size k j wr.heap.size w w3 HN.out h0 h1 (by omega) (by omega) HF.out.bc (by omega) HF.out.ci).mono ?_
          rintro e w4 ⟨rfl, hci⟩
          have HB4 := hide hci.bel
          have g1 : w4.cell? ⟨wr.heap.size, 0, none⟩ = some (.int .i64 (3 * ((k : Int) + (j : Int)))) := by rw [cell_of_row hci.ct]; simp
          clear hci
          have e1 : FloatKind.f64.format.order (ofI c) (ofI c) = some .eq := order_self (fin_ofI c (by have := HC.out; omega)).w
          have e2 : FloatKind.f64.format.order 0 0 = some .eq := order_self w_zero
          have e3 := fun w => r_i8 c w
          go_wp2_with fail
          go_ret
          exact ⟨rfl, HB4.out⟩
end Go.Proofs.Ybulkwby.lawS1116CConstant
