/- The builder's copyCheck and WriteByte at this dump. -/
import Derived.Test.YbulkwlcShelf
import Derived.Test.YbulkwlcRows
import Derived.WalkKit
import Derived.WalkSpells
import Derived.ProofKit
import Derived.Below
import Derived.Stop.CallBack
namespace Go.Proofs.Ybulkwlc
open Go.RowKit

theorem sizeBuilder : (Yba.prog.info? 34).map (·.size) = some 2 := by kernel_rfl
theorem liesBuilder : liesAt Yba.prog Yba.prog.depth 34 (2 / Yba.prog.cellsOf 34) 0 34 1 = true := by kernel_rfl
theorem info5 : (Yba.prog.info? 5).map (fun i => (i.zero, i.size, i.bytes)) = some (some (.int .u8 0), 1, 1) := by kernel_rfl
theorem call15 (args : Array Value) (w : World) : (callFunc 15 args).run Yba.prog w = ((Extern.AbiNoEscape.same args).run Yba.prog w).andThen fun v w' => .ok (.value v) w' :=
  run_callFunc_extern Yba.func15 (by kernel_rfl) (by kernel_rfl) (by kernel_rfl) (by kernel_rfl) args w

theorem conv_to (b : Nat) (w : World) (hsh : w.shape? b = some (34, 2)) :
    (convert 31 46 (.pointer (some ⟨b, 0, none⟩))).run Yba.prog w = .ok (.pointer (some ⟨b, 0, none⟩)) w := by
  obtain ⟨j, hj, hjs⟩ := Option.map_eq_some_iff.1 sizeBuilder
  simp only [convert, Sem.run_bind, run_underlying Yba.underlying31, run_underlying Yba.underlying46, Result.andThen_ok]
  change Sem.run Yba.prog (underlying 31 >>= _) w = _
  simp [run_underlying Yba.underlying31, run_underlying Yba.underlying46, Conv.seenAt, viewAt, cellsIn, hsh, sizeOf, typeInfo, hj, hjs]
theorem conv_from (b : Nat) (w : World) (hsh : w.shape? b = some (34, 2)) :
    (convert 46 31 (.pointer (some ⟨b, 0, none⟩))).run Yba.prog w = .ok (.pointer (some ⟨b, 0, none⟩)) w := by
  obtain ⟨j, hj, hjs⟩ := Option.map_eq_some_iff.1 sizeBuilder
  simp only [convert, Sem.run_bind, run_underlying Yba.underlying31, run_underlying Yba.underlying46, Result.andThen_ok]
  change Sem.run Yba.prog (underlying 46 >>= _) w = _
  simp [run_underlying Yba.underlying31, run_underlying Yba.underlying46, Conv.seenAt, viewAt, hsh, variablesAt, liesBuilder, sizeOf, typeInfo, hj, hjs]

set_option maxHeartbeats 1000000 in
set_option maxRecDepth 100000 in
theorem copyCheck_used (b : Nat) (w : World) (h0 : w.cell? ⟨b, 0, none⟩ = some (.pointer (some ⟨b, 0, none⟩))) :
    Calls Yba.prog 14 #[.pointer (some ⟨b, 0, none⟩)] w fun e w' => e = .returned (.tuple #[]) ∧ w' = w := by
  obtain ⟨j, hj, _⟩ := Option.map_eq_some_iff.1 sizeBuilder
  have hne := fun w => Lib.run_neq_ptr_same (P := Yba.prog) w ⟨b, 0, none⟩ Yba.underlying31 hj
  go_enter Yba.func14, Yba.ntmps14
  go_wp2
  go_end0
  exact ⟨rfl, rfl⟩

set_option maxHeartbeats 1000000 in
set_option maxRecDepth 100000 in
theorem copyCheck_fresh (b : Nat) (w : World) (h0 : w.cell? ⟨b, 0, none⟩ = some (.pointer none)) (hsh : w.shape? b = some (34, 2)) (hfz : w.frozen? ⟨b, 0, none⟩ = false) :
    Calls Yba.prog 14 #[.pointer (some ⟨b, 0, none⟩)] w fun e w' => e = .returned (.tuple #[]) ∧ w' = w.setCell ⟨b, 0, none⟩ (.pointer (some ⟨b, 0, none⟩)) := by
  have h1 := conv_to b w hsh
  have h2 := conv_from b w hsh
  have h3 := call15
  have h4 := fun x w => Lib.run_noEscape (P := Yba.prog) w x
  go_enter Yba.func14, Yba.ntmps14
  go_wp2
  go_end0
  exact ⟨rfl, rfl⟩

theorem copyCheck_any (B b : Nat) (bs : List Value) (w : World) (h : Lib.IsBuilder 34 5 B b bs w) :
    Calls Yba.prog 14 #[.pointer (some ⟨b, 0, none⟩)] w fun e w' => e = .returned (.tuple #[]) ∧ (Lib.BuilderAt 34 5 B b (.pointer (some ⟨b, 0, none⟩)) bs w' ∧ Below B w w') := by
  rcases h with h | h
  · refine (copyCheck_fresh b w h.cell0 h.shape h.frozen0).mono ?_
    rintro e w' ⟨rfl, rfl⟩
    exact ⟨rfl, h.used _, (Below.refl B w).setCell (p := ⟨b, 0, none⟩) h.1 _⟩
  · refine (copyCheck_used b w h.cell0).mono ?_
    rintro e w' ⟨rfl, rfl⟩
    exact ⟨rfl, h, Below.refl B _⟩

set_option maxHeartbeats 2000000 in
set_option maxRecDepth 100000 in
theorem writeByte_any (B b : Nat) (bs : List Value) (c : Int) (w : World) (h : Lib.IsBuilder 34 5 B b bs w) (hlen : bs.length + 1 ≤ 140737488355328) (hBw : B ≤ w.heap.size) :
    Calls Yba.prog 11 #[.pointer (some ⟨b, 0, none⟩), .int .u8 c] w fun e w' => e = .returned .nilIface ∧ (Lib.IsBuilder 34 5 B b (bs ++ [.int .u8 c]) w' ∧ Below B w w') := by
  obtain ⟨i0, hi, hz0, hz1, hz2⟩ := info_parts info5
  go_enter Yba.func11, Yba.ntmps11
  go_wp2_with (go_at_call 14; refine (copyCheck_any B b bs _ h).mono ?_)
  rintro e w1 ⟨rfl, h1, hb1⟩
  obtain ⟨hB, v, hbk, hown, hne⟩ := h1
  have c0 : w1.cell? ⟨b, 0, none⟩ = some (.pointer (some ⟨b, 0, none⟩)) := by rw [Lib.cell_of_heap hbk]; rfl
  have c1 : w1.cell? ⟨b, 1, none⟩ = some v := by rw [Lib.cell_of_heap hbk]; rfl
  go_wp2_with (at_builtin; refine wpList_append_own _ rfl _ _ 32 rfl B 5 i0 (.int .u8 0) 1 1 Yba.underlying32 hi hz0 hz1 hz2 rfl (by decide) _ _ _ rfl (hown.alloc _) ⟨w1.heap.size, 0, none⟩ 1 1 [.int .u8 c] rfl rfl ?c1 ?c2 ?c3 ?c4 ?c5 ?_)
  case c1 =>
    intro j u hj
    match j, hj with
    | 0, hj => simp at hj; subst hj; simp [Addr.add]
  case c2 => intro u hu; simp at hu; subst hu; rfl
  case c3 => unfold maxLen; omega
  case c4 => omega
  case c5 => have := hb1.size; simp; omega
  intro v' w2 hown' hgrow _
  have hlt : b < w1.heap.size := by
    rcases Nat.lt_or_ge b w1.heap.size with h' | h'
    · exact h'
    · simp [Array.getElem?_eq_none h'] at hbk
  have hb2 : w2.heap[b]? = some (.cells #[.pointer (some ⟨b, 0, none⟩), v] 34 (0, 0)) := by
    rw [hgrow.block b (by simp; omega) (fun e => hne e.symm), Lib.alloc_old w1 _ b hlt]
    exact hbk
  have d0 : w2.cell? ⟨b, 0, none⟩ = some (.pointer (some ⟨b, 0, none⟩)) := by rw [Lib.cell_of_heap hb2]; rfl
  have d1 : w2.cell? ⟨b, 1, none⟩ = some v := by rw [Lib.cell_of_heap hb2]; rfl
  have f1 : w2.frozen? ⟨b, 1, none⟩ = false := Lib.frozen_of_heap hb2 1
  obtain ⟨g, cap, rfl⟩ : ∃ g cap, v' = .slice (some ⟨g, 0, none⟩) (bs.length + 1) cap := by
    rcases hown'.2 with ⟨_, h0⟩ | ⟨g, cap, cur, hv, _⟩
    · omega
    · exact ⟨g, cap, hv⟩
  go_wp2
  go_ret
  refine ⟨rfl, Or.inr ?_, ?_⟩
  · exact Lib.BuilderAt.put (T := 34) (e := 5) hB hb2 (bs' := bs ++ [.int .u8 c]) (by simpa using hown') (by decide)
  · exact ((hb1.alloc (by have := hb1.size; omega) _).grown hgrow (by have := hb1.size; simp; omega) (fun k hk => (hown.lt k hk).1)).setCell (p := ⟨b, 1, none⟩) hB _
end Go.Proofs.Ybulkwlc
