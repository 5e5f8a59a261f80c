import Derived.Test.YbulkwaiFmtModel
import Derived.Stop.CallBack
import Derived.Stop.IfaceNil
import Derived.Laws.Cells
import Derived.Stop.FmtTextSlices
namespace Go.Proofs.YbulkwaiFmt
open Go.RowKit Go.Extern.Stop Go.Stop Go.Extern

theorem call16 (args : Array Value) (w : World) : (callFunc 16 args).run Ybaf.prog w = ((FmtStop.errorf #[9, 54] #[33] args).run Ybaf.prog w).andThen fun v w' => .ok (.value v) w' :=
  run_callFunc_extern Ybaf.func16 (by kernel_rfl) (by kernel_rfl) (by kernel_rfl) (by kernel_rfl) args w
theorem fmtGuard (name : String) (w : World) : (FmtStop.guard name).run Ybaf.prog w = .ok () w := by kernel_rfl
theorem fmtC (w : World) : (FmtDoors.printed ⟨#[105, 110, 118, 97, 108, 105, 100, 32, 101, 115, 99, 97, 112, 101, 32, 92, 37, 99, 32, 105, 110, 32, 97, 32, 115, 116, 114, 105, 110, 103]⟩ 1).run Ybaf.prog w = .ok [(0, 99, false)] w := by kernel_rfl
theorem fmtS (w : World) : (FmtDoors.printed ⟨#[105, 110, 118, 97, 108, 105, 100, 32, 101, 115, 99, 97, 112, 101, 32, 92, 117, 37, 115, 32, 105, 110, 32, 97, 32, 115, 116, 114, 105, 110, 103]⟩ 1).run Ybaf.prog w = .ok [(0, 115, false)] w := by kernel_rfl
def shape5 : List UInt8 := [6, 5, 0, 0, 0, 0, 0, 0, 0, 117, 105, 110, 116, 56]
theorem opC (name : String) (x : Int) (w : World) : (FmtStop.operand name true 99 false (.iface 5 (.int .u8 x))).run Ybaf.prog w = .ok (shape5, digits 8 (x % 2 ^ 64).toNat) w := by kernel_rfl
theorem ptr58 (w : World) : (FmtStop.ptrTo "errors.errorString").run Ybaf.prog w = .ok 58 w := by kernel_rfl
theorem elem58 (w : World) : (elemOf 58).run Ybaf.prog w = .ok 60 w := by kernel_rfl

/-- An error that is not nil is handed back. -/
def ErrRet (e : Ending) : Prop := ∃ p, e = .returned (.iface 58 (.pointer (some p)))

set_option maxHeartbeats 800000 in
theorem errorf_c (c : Int) (g : Nat) (w : World) (hc : w.cell? ⟨g, 0, none⟩ = some (.iface 5 (.int .u8 c))) :
    Calls Ybaf.prog 11 #[.string ⟨#[105, 110, 118, 97, 108, 105, 100, 32, 101, 115, 99, 97, 112, 101, 32, 92, 37, 99, 32, 105, 110, 32, 97, 32, 115, 116, 114, 105, 110, 103]⟩, .slice (some ⟨g, 0, none⟩) 1 1] w fun e w' => ErrRet e ∧ Below w.heap.size w w' := by
  have h1 := call16
  have h2 := fmtGuard
  have h3 := fmtC
  have h4 := opC
  have h5 := ptr58
  have h6 := elem58
  go_enter Ybaf.func11, Ybaf.ntmps11
  go_wp2
  go_ret
  exact ⟨⟨_, rfl⟩, ((Below.refl _ w).alloc (Nat.le_refl _) _).drew⟩

theorem value5 (name : String) (x : Int) (w : World) : (FmtStop.value name FmtStop.depth 5 [.int .u8 x]).run Ybaf.prog w = .ok (digits 8 (x % 2 ^ 64).toNat) w := by kernel_rfl
theorem values5 (name : String) (w : World) : ∀ xs : List Int, (List.mapM ((fun c => FmtStop.value name FmtStop.depth 5 [c]) ∘ Value.int IntKind.u8) xs).run Ybaf.prog w = .ok (xs.map fun x => digits 8 (x % 18446744073709551616).toNat) w
  | [] => by simp [List.mapM_nil]
  | x :: xs => by
    have ih := values5 name w xs
    have h := value5 name x w
    simp [List.mapM_cons, h, ih, Result.andThen]
theorem opBytes (a : Addr) (cap : Nat) (xs : List Int) (w : World) (hc : ∀ j v, (xs.map (Value.int .u8))[j]? = some v → w.cell? (a.add j) = some v) :
    ∃ sh sv, ∀ name, (FmtStop.operand name true 115 false (.iface 22 (.slice (some a) xs.length cap))).run Ybaf.prog w = .ok (sh, sv) w := by
  obtain ⟨str, h1⟩ : ∃ s, (typeStr 22).run Ybaf.prog w = .ok s w := ⟨_, rfl⟩
  have d2 : Ybaf.t22.desc = .slice 5 := rfl
  have hb : (FmtStop.bare (FmtStop.asked true 115 false) 22).run Ybaf.prog w = .ok true w := by kernel_rfl
  have hs : (FmtStop.scalar 5).run Ybaf.prog w = .ok true w := by kernel_rfl
  have hy : (Extern.Stop.isByte 5).run Ybaf.prog w = .ok true w := by kernel_rfl
  have hw : Ybaf.prog.funcs.any (·.name == FmtStop.writeWord) = true := by kernel_rfl
  have hl := run_loadCells_list (P := Ybaf.prog) w a (xs.map (Value.int .u8)) hc
  rw [List.length_map] at hl
  refine ⟨13 :: FmtStop.pack str.toUTF8.data.toList ++ 6 :: FmtStop.pack "uint8".toUTF8.data.toList, 1 :: (digits 8 xs.length ++ FmtText.intValues xs), fun name => ?_⟩
  have hsh : (FmtStop.shape name (FmtStop.asked true 115 false) FmtStop.depth 5).run Ybaf.prog w = .ok (6 :: FmtStop.pack "uint8".toUTF8.data.toList) w := by kernel_rfl
  simp [FmtStop.operand, h1, hb, hs, hy, hsh, hl, values5, FmtText.intValues]
  intro hno
  obtain ⟨i, hi, _, _, he⟩ := Array.any_iff_exists.1 hw
  exact absurd (by simpa using he) (hno i hi)

set_option maxHeartbeats 800000 in
theorem errorf_s (g : Nat) (a : Addr) (cap : Nat) (x0 x1 x2 x3 : Int) (w : World) (hc : w.cell? ⟨g, 0, none⟩ = some (.iface 22 (.slice (some a) 4 cap)))
    (hx : ∀ j v, ([x0, x1, x2, x3].map (Value.int .u8))[j]? = some v → w.cell? (a.add j) = some v) :
    Calls Ybaf.prog 11 #[.string ⟨#[105, 110, 118, 97, 108, 105, 100, 32, 101, 115, 99, 97, 112, 101, 32, 92, 117, 37, 115, 32, 105, 110, 32, 97, 32, 115, 116, 114, 105, 110, 103]⟩, .slice (some ⟨g, 0, none⟩) 1 1] w fun e w' => ErrRet e ∧ Below w.heap.size w w' := by
  have h1 := call16
  have h2 := fmtGuard
  have h3 := fmtS
  obtain ⟨sh, sv, h4⟩ := opBytes a cap [x0, x1, x2, x3] w hx
  have h4' : ∀ name, (FmtStop.operand name true 115 false (.iface 22 (.slice (some a) 4 cap))).run Ybaf.prog w = .ok (sh, sv) w := h4
  have h5 := ptr58
  have h6 := elem58
  clear hx h4
  go_enter Ybaf.func11, Ybaf.ntmps11
  go_wp2
  go_ret
  exact ⟨⟨_, rfl⟩, ((Below.refl _ w).alloc (Nat.le_refl _) _).drew⟩
end Go.Proofs.YbulkwaiFmt
