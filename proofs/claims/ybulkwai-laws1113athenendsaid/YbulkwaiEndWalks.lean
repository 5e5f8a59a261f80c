import Derived.Test.YbulkwaiEq
import Derived.Laws.CopyOwn
import Derived.Deep.OwnRows
namespace Go.Proofs.Ybulkwai
open Go.RowKit Go.Deep
theorem end_some (b off len cap : Nat) (zs : List Int) (n : Int) (w : World) (hlen : len ≤ 4096) (hpos : 0 < len) (hb : b < w.heap.size)
   (hz : len ≤ zs.length) (hc : ∀ i, i < len → w.cell? ⟨b, off + i, none⟩ = some (.int .u8 (zs.getD i 0))) :
    Calls Yba.prog 4 #[.slice (some ⟨b, off, none⟩) len cap, .int .i64 n] w fun e w' => e = .returned (.bool true) ∧ Below w.heap.size w w' := by
  have hmk := fun w => run_make_row' (P := Yba.prog) 22 5 (.int .u8 0) 1 Yba.underlying22 Yba.info5 rfl .i64 .i64 len (by omega) (by omega) w
  have hnn := fun w a n c => run_neq_slice_nil_any (P := Yba.prog) w 22 5 a n c 0 0 Yba.underlying22
  have hen := fun w a n c => Lib.run_eql_slice_nil (P := Yba.prog) w 22 5 a n c 0 0 Yba.underlying22
  have hlen' : ¬ (4096 : Int) < (len : Int) := by omega
  have hl0 : ((len : Int) == 0) = false := by simp; omega
  have hsz : (Yba.prog.info? 5).map (·.size) = some 1 := by kernel_rfl
  obtain ⟨cs, hcs⟩ : ∃ cs, cs = (zs.take len).map (Value.int .u8) := ⟨_, rfl⟩
  have hcl : cs.length = len := by rw [hcs]; simp; omega
  have hget : ∀ j, j < len → cs[j]? = some (.int .u8 (zs.getD j 0)) := by
    intro j hj
    have hjz : j < zs.length := by omega
    rw [hcs]; simp [hj, List.getD, hjz]
  have hone : ∀ v ∈ cs, v.oneCell' = true := by rw [hcs]; exact ints_oneCell _ _
  have hsrc : ∀ j v, cs[j]? = some v → w.cell? ⟨b, off + j, none⟩ = some v := by
    intro j v hj
    have hjl : j < len := by rw [← hcl]; exact (List.getElem?_eq_some_iff.1 hj).1
    rw [hc j hjl, ← hget j hjl, hj]
  clear hcs
  have hB1 : b ≠ w.heap.size := by omega
  go_enter Yba.func4, Yba.ntmps4
  go_wp2_with (refine wpList_copy_splice rfl (.tmp 17) (.tmp 18) 22 22 rfl 5 Yba.underlying22 hsz _ _ _ _ _ _ rfl rfl w.heap.size 0 (madeCells #[.int .u8 0] len).toList 5 ?q1 cs ?q2 ?q3 ?q4 ?q5 w.heap.size w ?q6 ?q7 ?_)
  case q1 => first | exact Array.getElem_push_eq | exact heap_alloc_new _ _
  case q3 => exact hsrc
  case q4 => simp [size_madeCells]
  case q5 => exact hone
  case q6 => exact (Below.refl _ _).alloc (Nat.le_refl _) _
  intro w2 HG hB
  have hsp : splice (madeCells #[Value.int .u8 0] len).toList 0 cs = cs := by
    have : (madeCells #[Value.int .u8 0] len).toList.length = cs.length := by simp [size_madeCells, hcl]
    simp [splice, this]
  rw [hsp] at HG
  have hsz2 : w.heap.size < w2.heap.size := (Array.getElem?_eq_some_iff.1 HG.out).1
  clear hmk hsrc hget hone hsp HG hc
  have hl1 : (0 : Int) < (len : Int) := by omega
  go_wp2
  go_end0
  go_wp2
  go_end0
  go_wp2
  go_ret
  exact ⟨rfl, hB.alloc (by omega) _⟩

theorem end_big (a : Option Addr) (len cap : Nat) (n : Int) (w : World) (hlen : 4096 < len) :
    Calls Yba.prog 4 #[.slice a len cap, .int .i64 n] w fun e w' => e = .returned (.bool true) ∧ Below w.heap.size w w' := by
  have hlen' : (4096 : Int) < (len : Int) := by omega
  go_enter Yba.func4, Yba.ntmps4
  go_wp2
  go_ret
  exact ⟨rfl, Below.refl _ _⟩

theorem end_nil (n : Int) (w : World) :
    Calls Yba.prog 4 #[.slice none 0 0, .int .i64 n] w fun e w' => e = .returned (.bool true) ∧ Below w.heap.size w w' := by
  have hnn := fun w a n c => run_neq_slice_nil_any (P := Yba.prog) w 22 5 a n c 0 0 Yba.underlying22
  have hen := fun w a n c => Lib.run_eql_slice_nil (P := Yba.prog) w 22 5 a n c 0 0 Yba.underlying22
  go_enter Yba.func4, Yba.ntmps4
  go_wp2
  go_end0
  go_wp2
  go_end0
  go_wp2
  go_end0
  go_wp2
  go_ret
  exact ⟨rfl, (Below.refl _ _).alloc (Nat.le_refl _) _⟩

theorem end_empty (x : Addr) (cap : Nat) (n : Int) (w : World) :
    Calls Yba.prog 4 #[.slice (some x) 0 cap, .int .i64 n] w fun e w' => e = .returned (.bool true) ∧ Below w.heap.size w w' := by
  have hnn := fun w a n c => run_neq_slice_nil_any (P := Yba.prog) w 22 5 a n c 0 0 Yba.underlying22
  have hen := fun w a n c => Lib.run_eql_slice_nil (P := Yba.prog) w 22 5 a n c 0 0 Yba.underlying22
  have hmk : ∀ w, (Instr.makeSlice 22 (.int .i64 0) (.int .i64 0)).run Yba.prog w = .ok (.slice (some ⟨w.heap.size, 0, none⟩) 0 0) (w.alloc (.cells (madeCells #[.int .u8 0] 0) 5)) := fun w => run_make_row' (P := Yba.prog) 22 5 (.int .u8 0) 1 Yba.underlying22 Yba.info5 rfl .i64 .i64 0 (by omega) (by omega) w
  have hsz : (Yba.prog.info? 5).map (·.size) = some 1 := by kernel_rfl
  go_enter Yba.func4, Yba.ntmps4
  go_wp2_with (first | (refine wpList_copy_nothing rfl (.tmp 17) (.tmp 18) 22 22 rfl 5 Yba.underlying22 hsz _ _ _ _ _ _ rfl rfl (by simp) ?_) | (go_at_call 5; go_in) | (go_at_call 8; go_in) | (go_at_call 7; go_in))
  go_end0
  go_wp2
  go_end0
  go_wp2
  go_end0
  go_wp2
  go_ret
  exact ⟨rfl, ((Below.refl _ _).alloc (Nat.le_refl _) _).alloc (by simp) _⟩
end Go.Proofs.Ybulkwai
