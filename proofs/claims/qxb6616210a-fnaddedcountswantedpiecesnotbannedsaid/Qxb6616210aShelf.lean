import Derived.Shelf.Bits.Mul64
import Derived.Test.Qxb6616210aProg
namespace Go.Proofs
open Go.Shelf
def Try.lays264_ren : Go.Shelf.Ren := ⟨fun | 264 => 53 | n => n, fun | 53 => 22 | 46 => 94 | n => n, fun | n => n⟩
theorem Try.lays264 : Go.Proofs.Lays.n264 Try.prog Try.lays264_ren := {
  mixed := by kernel_rfl
  f264 := Try.func53.trans (congrArg some (by kernel_rfl))
  t46 := Try.underlying94
  a46 := Try.isAgg94
  z46 := Try.sizeOf94
  v46 := Try.zeroValue94
  t53 := Try.underlying22
  a53 := Try.isAgg22
  z53 := Try.sizeOf22
  v53 := Try.zeroValue22 }
open Go.RowKit Go.Lib in
theorem Try.bits_Mul64 (x y : Nat) (hx : x < 18446744073709551616) (hy : y < 18446744073709551616) (w : World) :
    Calls Try.prog 53 #[.int .u64 x, .int .u64 y] w fun e w' => e = .returned (.tuple #[.int .u64 ((x * y / 18446744073709551616 : Nat) : Int), .int .u64 ((x * y % 18446744073709551616 : Nat) : Int)]) ∧ w' = w := Any.bits_Mul64 Try.lays264 x y hx hy w
end Go.Proofs
