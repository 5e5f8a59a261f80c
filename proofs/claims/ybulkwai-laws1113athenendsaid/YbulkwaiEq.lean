import Derived.Test.YbulkwaiRows
import Derived.WalkKit
import Derived.WalkSpells
import Derived.ProofKit
import Derived.Below
import Derived.Deep.QuietTactic
import Derived.BigQuiet
import Derived.WalkLawsBesides
namespace Go.Proofs.Ybulkwai
open Go.RowKit

theorem eq_same (b off c b2 off2 c2 n : Nat) (zs : Nat → Int) (w : World) (hn : n ≤ 4096)
    (h1 : ∀ i, i < n → w.cell? ⟨b, off + i, none⟩ = some (.int .u8 (zs i))) (h2 : ∀ i, i < n → w.cell? ⟨b2, off2 + i, none⟩ = some (.int .u8 (zs i))) :
    Calls Yba.prog 6 #[.slice (some ⟨b, off, none⟩) n c, .slice (some ⟨b2, off2, none⟩) n c2] w fun e w' => e = .returned (.bool true) ∧ Below w.heap.size w w' := by
  go_enter Yba.func6, Yba.ntmps6
  go_wp2
  go_loopw [5] (fun i wr => ∃ k : Nat, k ≤ n ∧ i = .int .i64 k ∧ (∀ a, wr.cell? a = w.cell? a) ∧ Below w.heap.size w wr) (fun i _ => n - (intOf i).toNat)
  case atStart => exact ⟨0, Nat.zero_le _, rfl, fun _ => rfl, Below.refl _ _⟩
  case round =>
    obtain ⟨k, hk, rfl, hsame, hb⟩ := hrel
    have HS : Hid (∀ a, wr.cell? a = w.cell? a) := hsame
    by_cases hlt : k < n
    · have g1 : wr.cell? ⟨b, off + k, none⟩ = some (.int .u8 (zs k)) := by rw [hsame]; exact h1 k hlt
      have g2 : wr.cell? ⟨b2, off2 + k, none⟩ = some (.int .u8 (zs k)) := by rw [hsame]; exact h2 k hlt
      clear hsame h1 h2
      have hlt' : (k : Int) < (n : Int) := by omega
      have hge : (0 : Int) ≤ (k : Int) := by omega
      go_wp2
      go_quiet (fail)
      go_wp2
      go_roundw
      case rel => exact ⟨k + 1, by omega, by go_num, fun a => by simpa using HS.out a, below_drewN hb _⟩
      case measure => simp [intOf]; omega
    · clear hsame h1 h2
      go_wp2
      go_ret
      exact ⟨rfl, hb⟩
theorem ptr_self_in (d b o : Nat) (w : World) : (Op.equalIn (d + 1) 28 (.pointer (some ⟨b, o, none⟩)) (.pointer (some ⟨b, o, none⟩))).run Yba.prog w = .ok true w := by
  have hu : Yba.prog.underlying 28 = some (.pointer 5) := by kernel_rfl
  have hs : (sizeOf 5).run Yba.prog w = .ok 1 w := by kernel_rfl
  simp [Op.equalIn, run_underlying hu, hs, sameAddr]
theorem ptr_self (b o : Nat) (w : World) : (binOp .eql 28 (.pointer (some ⟨b, o, none⟩)) (.pointer (some ⟨b, o, none⟩))).run Yba.prog w = .ok (.bool true) w := by
  simp only [binOp]
  simp [Op.equal, Op.maxDepth, ptr_self_in 9999 b o w]
theorem Yba.info5 : (Yba.prog.info? 5).map (fun i => (i.zero, i.size, i.bytes)) = some (some (.int .u8 0), 1, 1) := by kernel_rfl

end Go.Proofs.Ybulkwai
