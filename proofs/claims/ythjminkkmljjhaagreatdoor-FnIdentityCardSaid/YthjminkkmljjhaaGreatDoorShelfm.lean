/- The contract of math/bits.Mul64 out of the kit's shelf at this seat's translation. No conditions beyond those stated. -/
import Derived.Shelf.Bits.Mul64
import Derived.Test.YthjminkkmljjhaaGreatDoorProg
namespace Go.Proofs
open Go.Shelf
def Tryz.lays264_ren : Go.Shelf.Ren := ⟨fun | 264 => 99 | n => n, fun | 53 => 54 | 46 => 51 | n => n, fun | n => n⟩
theorem Tryz.lays264 : Go.Proofs.Lays.n264 Tryz.prog Tryz.lays264_ren := {
  mixed := by kernel_rfl
  f264 := Tryz.func99.trans (congrArg some (by kernel_rfl))
  t46 := Tryz.underlying51
  a46 := Tryz.isAgg51
  z46 := Tryz.sizeOf51
  v46 := Tryz.zeroValue51
  t53 := Tryz.underlying54
  a53 := Tryz.isAgg54
  z53 := Tryz.sizeOf54
  v53 := Tryz.zeroValue54 }
open Go.RowKit Go.Lib in
theorem Tryz.bits_Mul64 (x y : Nat) (hx : x < 18446744073709551616) (hy : y < 18446744073709551616) (w : World) :
    Calls Tryz.prog 99 #[.int .u64 x, .int .u64 y] w fun e w' => e = .returned (.tuple #[.int .u64 ((x * y / 18446744073709551616 : Nat) : Int), .int .u64 ((x * y % 18446744073709551616 : Nat) : Int)]) ∧ w' = w := Any.bits_Mul64 Tryz.lays264 x y hx hy w
end Go.Proofs
