/-
  DERIVED: THE SHELF's CONTRACTS AT THIS DUMP, IN PLAIN WORDS (tools/lay-plain.mjs out of 'TrydShelf.lean', which tools/lay-shelf.mjs wrote): THE SAME DECLARATIONS UNDER THE SAME NAMES: 'import', 'namespace', 'open', 'def', 'theorem' AND NOTHING ELSE: no command of the shelf's: FOR A HAND-IN. Each laying: the table of numbers ('.._ren') and one theorem, a field a fact of the dump's own or the kernel's comparison; each contract: ONE APPLICATION.
-/
import Derived.Shelf.Small.Bits
import Derived.Shelf.Strconv.Itoa0
import Derived.Shelf.Bits.Mul64
import Derived.Test.Qxb6616096aDoorProg
namespace Go.Proofs
open Go.Shelf
def Tryd.lays134_ren : Go.Shelf.Ren := ⟨fun | 134 => 59 | 129 => 67 | n => n, fun | 53 => 38 | 3 => 3 | 4 => 4 | 46 => 45 | 5 => 5 | 9 => 9 | n => n, fun | n => n⟩
theorem Tryd.lays134 : Go.Proofs.Lays.n134 Tryd.prog Tryd.lays134_ren := {
  mixed := by kernel_rfl
  f129 := Tryd.func67.trans (congrArg some (by kernel_rfl))
  f134 := Tryd.func59.trans (congrArg some (by kernel_rfl))
  t3 := Tryd.underlying3
  a3 := Tryd.isAgg3
  z3 := Tryd.sizeOf3
  v3 := Tryd.zeroValue3
  t4 := Tryd.underlying4
  a4 := Tryd.isAgg4
  z4 := Tryd.sizeOf4
  v4 := Tryd.zeroValue4
  t5 := Tryd.underlying5
  a5 := Tryd.isAgg5
  z5 := Tryd.sizeOf5
  v5 := Tryd.zeroValue5
  t9 := Tryd.underlying9
  a9 := Tryd.isAgg9
  z9 := Tryd.sizeOf9
  v9 := Tryd.zeroValue9
  t46 := Tryd.underlying45
  a46 := Tryd.isAgg45
  z46 := Tryd.sizeOf45
  v46 := Tryd.zeroValue45
  t53 := Tryd.underlying38
  a53 := Tryd.isAgg38
  z53 := Tryd.sizeOf38
  v53 := Tryd.zeroValue38 }
/-- bits.LeadingZeros64: "LeadingZeros64 returns the number of leading zero bits in x; the result is 64 for x == 0.": IT RETURNS '64 - Lib.bitLen x'; the world is as it was. ITS CALLEE bits.Len64 IS MET BY ITS OWN CONTRACT OFF THE SHELF (lay that first): entered in place it sends the kernel out of memory. (LAID: no walk: one application.) -/
theorem Tryd.bits_LeadingZeros64 (x : Int) (w : World) (h0 : 0 ≤ x) (h1 : x ≤ 18446744073709551615) :
    Calls Tryd.prog 59 #[.int .u64 x] w fun e w' => e = .returned (.int .i64 (64 - (Lib.bitLen x.toNat : Int))) ∧ w' = w := Any.bits_LeadingZeros64 Tryd.lays134 x w h0 h1
def Tryd.lays129_ren : Go.Shelf.Ren := ⟨fun | 129 => 67 | n => n, fun | 53 => 38 | 3 => 3 | 4 => 4 | 46 => 45 | 5 => 5 | 9 => 9 | n => n, fun | n => n⟩
theorem Tryd.lays129 : Go.Proofs.Lays.n129 Tryd.prog Tryd.lays129_ren := {
  mixed := by kernel_rfl
  f129 := Tryd.func67.trans (congrArg some (by kernel_rfl))
  t3 := Tryd.underlying3
  a3 := Tryd.isAgg3
  z3 := Tryd.sizeOf3
  v3 := Tryd.zeroValue3
  t4 := Tryd.underlying4
  a4 := Tryd.isAgg4
  z4 := Tryd.sizeOf4
  v4 := Tryd.zeroValue4
  t5 := Tryd.underlying5
  a5 := Tryd.isAgg5
  z5 := Tryd.sizeOf5
  v5 := Tryd.zeroValue5
  t9 := Tryd.underlying9
  a9 := Tryd.isAgg9
  z9 := Tryd.sizeOf9
  v9 := Tryd.zeroValue9
  t46 := Tryd.underlying45
  a46 := Tryd.isAgg45
  z46 := Tryd.sizeOf45
  v46 := Tryd.zeroValue45
  t53 := Tryd.underlying38
  a53 := Tryd.isAgg38
  z53 := Tryd.sizeOf38
  v53 := Tryd.zeroValue38 }
/-- bits.Len64: "Len64 returns the minimum number of bits required to represent x; the result is 0 for x == 0.": IT RETURNS 'Lib.bitLen x'; the world is as it was. ('h0', 'h1': x is a uint64.) (LAID: no walk: one application.) -/
theorem Tryd.bits_Len64 (x : Int) (w : World) (h0 : 0 ≤ x) (h1 : x ≤ 18446744073709551615) :
    Calls Tryd.prog 67 #[.int .u64 x] w fun e w' => e = .returned (.int .i64 (Lib.bitLen x.toNat)) ∧ w' = w := Any.bits_Len64 Tryd.lays129 x w h0 h1
def Tryd.lays264_ren : Go.Shelf.Ren := ⟨fun | 264 => 43 | n => n, fun | 53 => 38 | 46 => 45 | n => n, fun | n => n⟩
theorem Tryd.lays264 : Go.Proofs.Lays.n264 Tryd.prog Tryd.lays264_ren := {
  mixed := by kernel_rfl
  f264 := Tryd.func43.trans (congrArg some (by kernel_rfl))
  t46 := Tryd.underlying45
  a46 := Tryd.isAgg45
  z46 := Tryd.sizeOf45
  v46 := Tryd.zeroValue45
  t53 := Tryd.underlying38
  a53 := Tryd.isAgg38
  z53 := Tryd.sizeOf38
  v53 := Tryd.zeroValue38 }
open Go.RowKit Go.Lib in
theorem Tryd.bits_Mul64 (x y : Nat) (hx : x < 18446744073709551616) (hy : y < 18446744073709551616) (w : World) :
    Calls Tryd.prog 43 #[.int .u64 x, .int .u64 y] w fun e w' => e = .returned (.tuple #[.int .u64 ((x * y / 18446744073709551616 : Nat) : Int), .int .u64 ((x * y % 18446744073709551616 : Nat) : Int)]) ∧ w' = w := Any.bits_Mul64 Tryd.lays264 x y hx hy w
end Go.Proofs
