/- The walk of the law over the scanner's value. -/
import Derived.Test.YbulkwlcValue
import Derived.Test.YbulkwlcModel
namespace Go.Proofs.Ybulkwlc
open Go.RowKit Pl

theorem law_big (s : ByteArray) (n : Int) (w : World) (h : 4096 < s.size) :
    Calls Yba.prog 3 #[.string s, .int .u16 n] w fun e w' => e = .returned (.bool true) ∧ Below w.heap.size w w' := by
  have h' : (4096 : Int) < (s.size : Int) := by omega
  go_enter Yba.func3, Yba.ntmps3
  go_wp2
  go_ret
  exact ⟨rfl, Below.refl _ _⟩

set_option maxHeartbeats 2000000 in
set_option maxRecDepth 100000 in
theorem law_any (s : ByteArray) (n : Nat) (w : World) (h : s.size ≤ 4096) (hn : n ≤ 65535) :
    Calls Yba.prog 3 #[.string s, .int .u16 n] w fun e w' => e = .returned (.bool true) ∧ Below w.heap.size w w' := by
  have h' : ¬ (4096 : Int) < (s.size : Int) := by omega
  obtain ⟨at0, hat⟩ : ∃ a, a = n % (s.size + 1) := ⟨_, rfl⟩
  have hle : at0 ≤ s.size := by rw [hat]; exact Nat.le_of_lt_succ (Nat.mod_lt n (Nat.succ_pos s.size))
  have hrem : (n : Int).tmod ((s.size : Int) + 1) = (at0 : Int) := by
    rw [hat, Int.tmod_eq_emod_of_nonneg (by omega)]; simp
  have hrem2 : (n : Int) % ((s.size : Int) + 1) = (at0 : Int) := by rw [hat]; simp
  have hnz : ¬ ((s.size : Int) + 1 = 0) := by omega
  clear hat
  obtain ⟨ro, rk, rj, hr⟩ : ∃ ro rk rj, run s at0 [] false 0 = (ro, rk, rj) := ⟨_, _, _, rfl⟩
  have HSC : Hid (Sc s w.heap.size at0 w (w.alloc (.cells #[.string s, .int .i64 at0] 25 (0, 0)))) := ⟨heap_alloc_new _ _, (Below.refl _ _).alloc (Nat.le_refl _) _⟩
  have HR := hide hr
  clear hr
  go_enter Yba.func3, Yba.ntmps3
  go_wp2_with fail
  refine (value_any HSC.out hle h ro rk rj HR.out).mono ?_
  rintro e w1 ⟨rfl, h1⟩
  have H1 := hide h1
  clear h1
  go_wp2_with fail
  refine (model_any s at0 w1 hle h ro rk rj HR.out).mono ?_
  rintro e w2 ⟨rfl, hb2⟩
  have hlt : w.heap.size < w1.heap.size := (Array.getElem?_eq_some_iff.1 H1.out.hs).1
  have H2 := hide (H1.out.later hlt hb2)
  clear hb2
  have c0 : w2.cell? ⟨w.heap.size, 0, none⟩ = some (.string s) := by rw [cell_of_row H2.out.hs]; rfl
  have c1 : w2.cell? ⟨w.heap.size, 1, none⟩ = some (.int .i64 rj) := by rw [cell_of_row H2.out.hs]; rfl
  go_wp2_with fail
  go_ret
  exact ⟨rfl, H2.out.bel⟩
end Go.Proofs.Ybulkwlc
