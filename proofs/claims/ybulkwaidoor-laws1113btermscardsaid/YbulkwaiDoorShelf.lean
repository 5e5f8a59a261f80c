/- The shelf contracts of math bits at this dump, written by the tool of the kit. -/
import Derived.Shelf.Small.Bits
import Derived.Shelf.Strconv.Itoa0
import Derived.Shelf.Bits.Mul64
import Derived.Test.YbulkwaiDoorProg
namespace Go.Proofs
open Go.Shelf
def Ybad.lays134_ren : Go.Shelf.Ren := ⟨fun | 134 => 26 | 129 => 27 | n => n, fun | 53 => 31 | 3 => 3 | 4 => 4 | 46 => 39 | 5 => 5 | 9 => 9 | n => n, fun | n => n⟩
theorem Ybad.lays134 : Go.Proofs.Lays.n134 Ybad.prog Ybad.lays134_ren := {
  mixed := by kernel_rfl
  f129 := Ybad.func27.trans (congrArg some (by kernel_rfl))
  f134 := Ybad.func26.trans (congrArg some (by kernel_rfl))
  t3 := Ybad.underlying3
  a3 := Ybad.isAgg3
  z3 := Ybad.sizeOf3
  v3 := Ybad.zeroValue3
  t4 := Ybad.underlying4
  a4 := Ybad.isAgg4
  z4 := Ybad.sizeOf4
  v4 := Ybad.zeroValue4
  t5 := Ybad.underlying5
  a5 := Ybad.isAgg5
  z5 := Ybad.sizeOf5
  v5 := Ybad.zeroValue5
  t9 := Ybad.underlying9
  a9 := Ybad.isAgg9
  z9 := Ybad.sizeOf9
  v9 := Ybad.zeroValue9
  t46 := Ybad.underlying39
  a46 := Ybad.isAgg39
  z46 := Ybad.sizeOf39
  v46 := Ybad.zeroValue39
  t53 := Ybad.underlying31
  a53 := Ybad.isAgg31
  z53 := Ybad.sizeOf31
  v53 := Ybad.zeroValue31 }
theorem Ybad.bits_LeadingZeros64 (x : Int) (w : World) (h0 : 0 ≤ x) (h1 : x ≤ 18446744073709551615) :
    Calls Ybad.prog 26 #[.int .u64 x] w fun e w' => e = .returned (.int .i64 (64 - (Lib.bitLen x.toNat : Int))) ∧ w' = w := Any.bits_LeadingZeros64 Ybad.lays134 x w h0 h1
def Ybad.lays129_ren : Go.Shelf.Ren := ⟨fun | 129 => 27 | n => n, fun | 53 => 31 | 3 => 3 | 4 => 4 | 46 => 39 | 5 => 5 | 9 => 9 | n => n, fun | n => n⟩
theorem Ybad.lays129 : Go.Proofs.Lays.n129 Ybad.prog Ybad.lays129_ren := {
  mixed := by kernel_rfl
  f129 := Ybad.func27.trans (congrArg some (by kernel_rfl))
  t3 := Ybad.underlying3
  a3 := Ybad.isAgg3
  z3 := Ybad.sizeOf3
  v3 := Ybad.zeroValue3
  t4 := Ybad.underlying4
  a4 := Ybad.isAgg4
  z4 := Ybad.sizeOf4
  v4 := Ybad.zeroValue4
  t5 := Ybad.underlying5
  a5 := Ybad.isAgg5
  z5 := Ybad.sizeOf5
  v5 := Ybad.zeroValue5
  t9 := Ybad.underlying9
  a9 := Ybad.isAgg9
  z9 := Ybad.sizeOf9
  v9 := Ybad.zeroValue9
  t46 := Ybad.underlying39
  a46 := Ybad.isAgg39
  z46 := Ybad.sizeOf39
  v46 := Ybad.zeroValue39
  t53 := Ybad.underlying31
  a53 := Ybad.isAgg31
  z53 := Ybad.sizeOf31
  v53 := Ybad.zeroValue31 }
theorem Ybad.bits_Len64 (x : Int) (w : World) (h0 : 0 ≤ x) (h1 : x ≤ 18446744073709551615) :
    Calls Ybad.prog 27 #[.int .u64 x] w fun e w' => e = .returned (.int .i64 (Lib.bitLen x.toNat)) ∧ w' = w := Any.bits_Len64 Ybad.lays129 x w h0 h1
def Ybad.lays264_ren : Go.Shelf.Ren := ⟨fun | 264 => 24 | n => n, fun | 53 => 31 | 46 => 39 | n => n, fun | n => n⟩
theorem Ybad.lays264 : Go.Proofs.Lays.n264 Ybad.prog Ybad.lays264_ren := {
  mixed := by kernel_rfl
  f264 := Ybad.func24.trans (congrArg some (by kernel_rfl))
  t46 := Ybad.underlying39
  a46 := Ybad.isAgg39
  z46 := Ybad.sizeOf39
  v46 := Ybad.zeroValue39
  t53 := Ybad.underlying31
  a53 := Ybad.isAgg31
  z53 := Ybad.sizeOf31
  v53 := Ybad.zeroValue31 }
open Go.RowKit Go.Lib in
theorem Ybad.bits_Mul64 (x y : Nat) (hx : x < 18446744073709551616) (hy : y < 18446744073709551616) (w : World) :
    Calls Ybad.prog 24 #[.int .u64 x, .int .u64 y] w fun e w' => e = .returned (.tuple #[.int .u64 ((x * y / 18446744073709551616 : Nat) : Int), .int .u64 ((x * y % 18446744073709551616 : Nat) : Int)]) ∧ w' = w := Any.bits_Mul64 Ybad.lays264 x y hx hy w
end Go.Proofs
