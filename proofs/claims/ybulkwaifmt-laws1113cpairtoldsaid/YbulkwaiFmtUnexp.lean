import Derived.Test.YbulkwaiFmtErr
namespace Go.Proofs.YbulkwaiFmt
open Go.RowKit

theorem ptr58_self (d : Nat) (p : Addr) (w : World) : (Op.equalIn (d + 1) 58 (.pointer (some p)) (.pointer (some p))).run Ybaf.prog w = .ok true w := by
  have hu : Ybaf.prog.underlying 58 = some (.pointer 60) := by kernel_rfl
  have hs : (sizeOf 60).run Ybaf.prog w = .ok 1 w := by kernel_rfl
  simp [Op.equalIn, run_underlying hu, hs, sameAddr]
theorem iface58_self (d : Nat) (p : Addr) (w : World) : (Op.equalIn (d + 2) 33 (.iface 58 (.pointer (some p))) (.iface 58 (.pointer (some p)))).run Ybaf.prog w = .ok true w := by
  have hi : (Ybaf.prog.info? 58).map (·.comparable) = some true := by kernel_rfl
  obtain ⟨i, h1, h2⟩ := Option.map_eq_some_iff.1 hi
  have hu := Ybaf.underlying33
  have ht : (typeInfo 58).run Ybaf.prog w = .ok i w := by simp [typeInfo, h1]
  rw [Op.equalIn]
  simp [run_underlying hu, ht, h2, ptr58_self d p w]
theorem eof_self (p : Addr) (w : World) : (binOp .eql 33 (.iface 58 (.pointer (some p))) (.iface 58 (.pointer (some p)))).run Ybaf.prog w = .ok (.bool true) w := by
  simp only [binOp]
  simp [Op.equal, Op.maxDepth, iface58_self 9998 p w]

theorem unexpected_eof (pe pu : Addr) (w : World) (h0 : w.cell? ⟨0, 0, none⟩ = some (.iface 58 (.pointer (some pe)))) (h1 : w.cell? ⟨1, 0, none⟩ = some (.iface 58 (.pointer (some pu)))) :
    Calls Ybaf.prog 10 #[.iface 58 (.pointer (some pe))] w fun e w' => e = .returned (.iface 58 (.pointer (some pu))) ∧ w = w' := by
  have h := eof_self pe
  go_enter Ybaf.func10, Ybaf.ntmps10
  go_wp2
  go_ret
  exact ⟨rfl, rfl⟩
end Go.Proofs.YbulkwaiFmt
