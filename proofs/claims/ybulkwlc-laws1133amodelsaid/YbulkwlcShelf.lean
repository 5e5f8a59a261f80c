/- The shelf's contracts of the builder's Len and String at this dump, written by the kit's tool. -/
import Derived.Shelf.Strings.Builder1
import Derived.Test.YbulkwlcProg
namespace Go.Proofs
open Go.Shelf
def Yba.lays170_ren : Go.Shelf.Ren := ⟨fun | 170 => 9 | n => n, fun | 70 => 31 | 3 => 3 | 0 => 0 | 72 => 34 | 37 => 32 | 5 => 5 | n => n, fun | n => n⟩
theorem Yba.lays170 : Go.Proofs.Lays.n170 Yba.prog Yba.lays170_ren := {
  mixed := by kernel_rfl
  f170 := Yba.func9.trans (congrArg some (by kernel_rfl))
  t0 := Yba.underlying0
  a0 := Yba.isAgg0
  z0 := Yba.sizeOf0
  v0 := Yba.zeroValue0
  t3 := Yba.underlying3
  a3 := Yba.isAgg3
  z3 := Yba.sizeOf3
  v3 := Yba.zeroValue3
  t37 := Yba.underlying32
  a37 := Yba.isAgg32
  z37 := Yba.sizeOf32
  v37 := Yba.zeroValue32
  t70 := Yba.underlying31
  a70 := Yba.isAgg31
  z70 := Yba.sizeOf31
  v70 := Yba.zeroValue31
  t72 := Yba.underlying34
  a72 := Yba.isAgg34
  z72 := Yba.sizeOf34
  v72 := Yba.zeroValue34 }
open Go.RowKit in
theorem Yba.Builder_Len (B b : Nat) (bs : List Value) (w : World) (h : Lib.IsBuilder 34 5 B b bs w) :
    Calls Yba.prog 9 #[.pointer (some ⟨b, 0, none⟩)] w fun e w' => e = .returned (.int .i64 bs.length) ∧ w' = w := Any.Builder_Len Yba.lays170 B b bs w h
def Yba.lays169_ren : Go.Shelf.Ren := ⟨fun | 169 => 7 | n => n, fun | 70 => 31 | 9 => 9 | 0 => 0 | 72 => 34 | 37 => 32 | 127 => 45 | 3 => 3 | 5 => 5 | n => n, fun | n => n⟩
theorem Yba.lays169 : Go.Proofs.Lays.n169 Yba.prog Yba.lays169_ren := {
  mixed := by kernel_rfl
  f169 := Yba.func7.trans (congrArg some (by kernel_rfl))
  t0 := Yba.underlying0
  a0 := Yba.isAgg0
  z0 := Yba.sizeOf0
  v0 := Yba.zeroValue0
  t3 := Yba.underlying3
  a3 := Yba.isAgg3
  z3 := Yba.sizeOf3
  v3 := Yba.zeroValue3
  t9 := Yba.underlying9
  a9 := Yba.isAgg9
  z9 := Yba.sizeOf9
  v9 := Yba.zeroValue9
  t37 := Yba.underlying32
  a37 := Yba.isAgg32
  z37 := Yba.sizeOf32
  v37 := Yba.zeroValue32
  t70 := Yba.underlying31
  a70 := Yba.isAgg31
  z70 := Yba.sizeOf31
  v70 := Yba.zeroValue31
  t72 := Yba.underlying34
  a72 := Yba.isAgg34
  z72 := Yba.sizeOf34
  v72 := Yba.zeroValue34
  t127 := Yba.underlying45
  a127 := Yba.isAgg45
  z127 := Yba.sizeOf45
  v127 := Yba.zeroValue45 }
theorem Yba.Builder_Extra_169 : Builder.Extra Yba.prog Yba.lays169_ren := {
  sizeBuilder := by kernel_rfl
  liesBuilder := by kernel_rfl
  t5 := Yba.underlying5
  a5 := Yba.isAgg5
  z5 := Yba.sizeOf5
  v5 := Yba.zeroValue5
  infoByte := by kernel_rfl
  cellsByte := by kernel_rfl
  sizeByte := by kernel_rfl
  neB5 := by decide }
open Go.RowKit in
theorem Yba.Builder_String (B b : Nat) (l : List UInt8) (w : World) (h : Lib.IsBuilder 34 5 B b (Lib.byteCells l) w) (h0 : l ≠ []) :
    Calls Yba.prog 7 #[.pointer (some ⟨b, 0, none⟩)] w fun e w' => e = .returned (.string ⟨l.toArray⟩) ∧ Below B w w' := Any.Builder_String Yba.lays169 Yba.Builder_Extra_169 B b l w h h0
open Go.RowKit in
theorem Yba.Builder_String_empty (B b : Nat) (w : World) (h : Lib.IsBuilder 34 5 B b [] w) (hBw : B ≤ w.heap.size) :
    Calls Yba.prog 7 #[.pointer (some ⟨b, 0, none⟩)] w fun e w' => e = .returned (.string ⟨#[]⟩) ∧ Below B w w' := Any.Builder_String_empty Yba.lays169 Yba.Builder_Extra_169 B b w h hBw
open Go.RowKit in
theorem Yba.Builder_String_any (B b : Nat) (l : List UInt8) (w : World) (h : Lib.IsBuilder 34 5 B b (Lib.byteCells l) w) (hBw : B ≤ w.heap.size) :
    Calls Yba.prog 7 #[.pointer (some ⟨b, 0, none⟩)] w fun e w' => e = .returned (.string ⟨l.toArray⟩) ∧ Below B w w' := Any.Builder_String_any Yba.lays169 Yba.Builder_Extra_169 B b l w h hBw
end Go.Proofs
