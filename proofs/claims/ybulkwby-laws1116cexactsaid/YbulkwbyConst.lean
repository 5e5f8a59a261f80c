/- The closure that counts, and spread over two runs of one value. -/
import Derived.Test.YbulkwbySpread10
import Derived.Deep.OwnRows
namespace Go.Proofs.Ybulkwby
open Go.RowKit Fl Go.Deep

theorem cell_of_row {w : World} {b : Nat} {cs : Array Value} {t : TypeId} (h : w.heap[b]? = some (.cells cs t (0, 0))) (i : Nat) : w.cell? ⟨b, i, none⟩ = cs[i]? := by simp [World.cell?, h]
theorem free_of_row {w : World} {b : Nat} {cs : Array Value} {t : TypeId} (h : w.heap[b]? = some (.cells cs t (0, 0))) (i : Nat) : w.frozen? ⟨b, i, none⟩ = false := by simp [World.frozen?, h]
theorem row_setCell {w : World} {b : Nat} {cs : Array Value} {t : TypeId} (h : w.heap[b]? = some (.cells cs t (0, 0))) (i : Nat) (u : Value) : (w.setCell ⟨b, i, none⟩ u).heap[b]? = some (.cells (cs.setIfInBounds i u) t (0, 0)) := by
  have hlt : b < w.heap.size := (Array.getElem?_eq_some_iff.1 h).1
  simp [World.setCell, Array.getElem?_modify, h]
theorem row_other {w : World} {b k : Nat} (h : k ≠ b) (i : Nat) (u : Value) : (w.setCell ⟨b, i, none⟩ u).heap[k]? = w.heap[k]? := Below.heap_setCell _ _ _ _ h
theorem cell_other {w : World} {b k : Nat} (h : k ≠ b) (i o : Nat) (u : Value) : (w.setCell ⟨b, i, none⟩ u).cell? ⟨k, o, none⟩ = w.cell? ⟨k, o, none⟩ := World.cell?_of_block (w := w) (row_other h i u)

set_option maxHeartbeats 400000 in
theorem count_any (x : Int) (bc : Nat) (c : Nat) (w : World) (hc : c ≤ 100000) (h : w.heap[bc]? = some (.cells #[.int .i64 c] 3 (0, 0))) :
    Calls Yba.prog 10 #[.int .i8 x, .pointer (some ⟨bc, 0, none⟩)] w fun e w' => e = .returned (.float .f64 (ofI x)) ∧ w' = w.setCell ⟨bc, 0, none⟩ (.int .i64 ((c : Int) + 1)) := by
  have h1 : w.cell? ⟨bc, 0, none⟩ = some (.int .i64 c) := by rw [cell_of_row h]; rfl
  have h2 := free_of_row h 0
  have h3 := r_i8
  clear h
  go_enter Yba.func10, Yba.ntmps10
  go_wp2
  go_ret
  exact ⟨rfl, rfl⟩

/-- What stands while spread runs. -/
structure CI (c : Int) (a0 a1 n0 n1 bc B : Nat) (w0 : World) (j : Nat) (w : World) : Prop where
  r0 : ∀ i, i < n0 → w.cell? ⟨a0, i, none⟩ = some (.int .i8 c)
  r1 : ∀ i, i < n1 → w.cell? ⟨a1, i, none⟩ = some (.int .i8 c)
  ct : w.heap[bc]? = some (.cells #[.int .i64 j] 3 (0, 0))
  b0 : w.cell? ⟨B, 0, none⟩ = some (.slice (some ⟨a0, 0, none⟩) n0 n0)
  b1 : w.cell? ⟨B, 1, none⟩ = some (.slice (some ⟨a1, 0, none⟩) n1 n1)
  bel : Below w0.heap.size w0 w

def pick2 (a b : Nat) : Nat → Nat
  | 0 => a
  | _ + 1 => b

theorem spread_const (c : Int) (hc : -128 ≤ c ∧ c ≤ 127) (a0 a1 n0 n1 bc : Nat) (w0 w : World) (hn : n0 + n1 ≠ 0) (h0 : n0 ≤ 255) (h1 : n1 ≤ 255)
    (d0 : a0 ≠ bc) (d1 : a1 ≠ bc) (d2 : bc < w.heap.size) (d3 : w0.heap.size ≤ bc)
    (hi : CI c a0 a1 n0 n1 bc w.heap.size w0 0 (w.alloc (.cells #[.slice (some ⟨a0, 0, none⟩) n0 n0, .slice (some ⟨a1, 0, none⟩) n1 n1] 28 (0, 0)))) :
    Calls Yba.prog 6 #[.agg #[.slice (some ⟨a0, 0, none⟩) n0 n0, .slice (some ⟨a1, 0, none⟩) n1 n1], .func (.func 10) #[] #[.pointer (some ⟨bc, 0, none⟩)]] w
      fun e w' => e = .returned (.tuple #[.float .f64 (ofI c), .float .f64 0]) ∧ CI c a0 a1 n0 n1 bc w.heap.size w0 (3 * (n0 + n1)) w' := by
  obtain ⟨e1, e2, e3, e4⟩ := ends_const c hc (n0 + n1) hn (by omega)
  refine spread_any10 (fun _ => c) (pick2 a0 a1) (pick2 n0 n1) (n0 + n1) bc (fun _ => c) (CI c a0 a1 n0 n1 bc w.heap.size w0) w (ofI c) 0 0 ?_ e1 e4 e2 e3 hi
  refine ⟨fun _ => hc, ?_, by omega, fun _ _ => rfl, fun _ => rfl, fun _ => rfl, ?_, ?_, ?_⟩
  · show 0 + n0 + n1 = _; omega
  · intro j w' k i hI hk hi
    obtain rfl | rfl : k = 0 ∨ k = 1 := by omega
    · exact hI.r0 i hi
    · exact hI.r1 i hi
  · intro j w' k hI hk
    obtain rfl | rfl : k = 0 ∨ k = 1 := by omega
    · exact hI.b0
    · exact hI.b1
  · intro j w' hj hI
    refine (count_any c bc j w' (by omega) hI.ct).mono ?_
    rintro e w2 ⟨rfl, rfl⟩
    refine ⟨rfl, ?_, ?_, ?_, ?_, ?_, hI.bel.setCell (p := ⟨bc, 0, none⟩) d3 _⟩
    · intro i hi; rw [cell_other d0]; exact hI.r0 i hi
    · intro i hi; rw [cell_other d1]; exact hI.r1 i hi
    · rw [row_setCell hI.ct]; rfl
    · rw [cell_other (by omega)]; exact hI.b0
    · rw [cell_other (by omega)]; exact hI.b1
end Go.Proofs.Ybulkwby
