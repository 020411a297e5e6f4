/-
  DERIVED: THE SHELF's CONTRACTS AT THIS DUMP, IN PLAIN WORDS (tools/lay-plain.mjs out of 'Qxb6615850aShelf.lean', which tools/lay-shelf.mjs wrote): THE SAME DECLARATIONS UNDER THE SAME NAMES: 'import', 'namespace', 'open', 'def', 'theorem' AND NOTHING ELSE: no command of the shelf's: FOR A HAND-IN. Each laying: the table of numbers ('.._ren') and one theorem, a field a fact of the dump's own or the kernel's comparison; each contract: ONE APPLICATION.
-/
import Derived.Shelf.Small.Bits
import Derived.Shelf.SlIterI.Nil
import Derived.Shelf.SlGeneric
import Derived.Shelf.SlSortCmp.Xorshift
import Derived.Test.Qxb6615850aProg
namespace Go.Proofs
open Go.Shelf
set_option maxRecDepth 100000
def Try.lays125_ren : Go.Shelf.Ren := ⟨fun | 125 => 33 | 128 => 42 | 129 => 43 | n => n, fun | 46 => 102 | 3 => 3 | 51 => 112 | 53 => 114 | 4 => 4 | 5 => 5 | 9 => 9 | n => n, fun | n => n⟩
theorem Try.lays125 : Go.Proofs.Lays.n125 Try.prog Try.lays125_ren := {
  mixed := by kernel_rfl
  f125 := Try.func33.trans (congrArg some (by kernel_rfl))
  f128 := Try.func42.trans (congrArg some (by kernel_rfl))
  f129 := Try.func43.trans (congrArg some (by kernel_rfl))
  t3 := Try.underlying3
  a3 := Try.isAgg3
  z3 := Try.sizeOf3
  v3 := Try.zeroValue3
  t4 := Try.underlying4
  a4 := Try.isAgg4
  z4 := Try.sizeOf4
  v4 := Try.zeroValue4
  t5 := Try.underlying5
  a5 := Try.isAgg5
  z5 := Try.sizeOf5
  v5 := Try.zeroValue5
  t9 := Try.underlying9
  a9 := Try.isAgg9
  z9 := Try.sizeOf9
  v9 := Try.zeroValue9
  t46 := Try.underlying102
  a46 := Try.isAgg102
  z46 := Try.sizeOf102
  v46 := Try.zeroValue102
  t51 := Try.underlying112
  a51 := Try.isAgg112
  z51 := Try.sizeOf112
  v51 := Try.zeroValue112
  t53 := Try.underlying114
  a53 := Try.isAgg114
  z53 := Try.sizeOf114
  v53 := Try.zeroValue114 }
def Try.keysA_ren : Go.Shelf.Ren := ⟨fun | 7 => 25 | 10 => 31 | n => n, fun | 23 => 41 | 26 => 3 | 3 => 39 | 28 => 91 | 0 => 0 | 27 => 90 | 33 => 99 | 4 => 4 | n => n, fun | n => n⟩
theorem Try.keysA : Go.Proofs.SlLaysZI.n7 Try.prog Try.keysA_ren := {
  mixed := by kernel_rfl
  f7 := ⟨Try.f25.name, by decide, Try.func25.trans (congrArg some (by kernel_rfl))⟩
  f10 := ⟨Try.f31.name, by decide, Try.func31.trans (congrArg some (by kernel_rfl))⟩
  t0 := Try.underlying0
  a0 := Try.isAgg0
  z0 := Try.sizeOf0
  v0 := Try.zeroValue0
  t4 := Try.underlying4
  a4 := Try.isAgg4
  z4 := Try.sizeOf4
  v4 := Try.zeroValue4
  t23 := Try.underlying41
  a23 := Try.isAgg41
  z23 := Try.sizeOf41
  v23 := Try.zeroValue41
  t26 := Try.underlying3
  a26 := Try.isAgg3
  z26 := Try.sizeOf3
  v26 := Try.zeroValue3
  t27 := Try.underlying90
  a27 := Try.isAgg90
  z27 := Try.sizeOf90
  v27 := Try.zeroValue90
  t28 := Try.underlying91
  a28 := Try.isAgg91
  z28 := Try.sizeOf91
  v28 := Try.zeroValue91
  t33 := Try.underlying99
  a33 := Try.isAgg99
  z33 := Try.sizeOf99
  v33 := Try.zeroValue99 }
def Try.collectA_ren : Go.Shelf.Ren := ⟨fun | 8 => 24 | 11 => 30 | n => n, fun | 26 => 3 | 28 => 91 | 24 => 22 | 0 => 0 | 33 => 99 | 4 => 4 | n => n, fun | n => n⟩
theorem Try.collectA : Go.Proofs.SlLaysZI.n8 Try.prog Try.collectA_ren := {
  mixed := by kernel_rfl
  f8 := ⟨Try.f24.name, by decide, Try.func24.trans (congrArg some (by kernel_rfl))⟩
  f11 := ⟨Try.f30.name, by decide, Try.func30.trans (congrArg some (by kernel_rfl))⟩
  t0 := Try.underlying0
  a0 := Try.isAgg0
  z0 := Try.sizeOf0
  v0 := Try.zeroValue0
  t24 := Try.underlying22
  a24 := Try.isAgg22
  z24 := Try.sizeOf22
  v24 := Try.zeroValue22
  t26 := Try.underlying3
  a26 := Try.isAgg3
  z26 := Try.sizeOf3
  v26 := Try.zeroValue3
  t28 := Try.underlying91
  a28 := Try.isAgg91
  z28 := Try.sizeOf91
  v28 := Try.zeroValue91
  i26 := by kernel_rfl }
def Try.npot_ren : Go.Shelf.Ren := ⟨fun | 47 => 45 | 15 => 33 | 28 => 42 | 29 => 43 | n => n, fun | 3 => 3 | 39 => 102 | 53 => 112 | 55 => 114 | 4 => 4 | 5 => 5 | 9 => 9 | n => n, fun | n => n⟩
theorem Try.npot : Go.Proofs.SlLaysF0.n47 Try.prog Try.npot_ren := {
  mixed := by kernel_rfl
  f15 := Try.func33.trans (congrArg some (by kernel_rfl))
  f28 := Try.func42.trans (congrArg some (by kernel_rfl))
  f29 := Try.func43.trans (congrArg some (by kernel_rfl))
  f47 := Try.func45.trans (congrArg some (by kernel_rfl))
  t3 := Try.underlying3
  a3 := Try.isAgg3
  z3 := Try.sizeOf3
  v3 := Try.zeroValue3
  t4 := Try.underlying4
  a4 := Try.isAgg4
  z4 := Try.sizeOf4
  v4 := Try.zeroValue4
  t5 := Try.underlying5
  a5 := Try.isAgg5
  z5 := Try.sizeOf5
  v5 := Try.zeroValue5
  t9 := Try.underlying9
  a9 := Try.isAgg9
  z9 := Try.sizeOf9
  v9 := Try.zeroValue9
  t39 := Try.underlying102
  a39 := Try.isAgg102
  z39 := Try.sizeOf102
  v39 := Try.zeroValue102
  t53 := Try.underlying112
  a53 := Try.isAgg112
  z53 := Try.sizeOf112
  v53 := Try.zeroValue112
  t55 := Try.underlying114
  a55 := Try.isAgg114
  z55 := Try.sizeOf114
  v55 := Try.zeroValue114 }
def Try.xorn_ren : Go.Shelf.Ren := ⟨fun | 48 => 46 | n => n, fun | 76 => 121 | 55 => 114 | 0 => 0 | 66 => 115 | 39 => 102 | n => n, fun | n => n⟩
theorem Try.xorn : Go.Proofs.SlLaysF0.n48 Try.prog Try.xorn_ren := {
  mixed := by kernel_rfl
  f48 := Try.func46.trans (congrArg some (by kernel_rfl))
  t0 := Try.underlying0
  a0 := Try.isAgg0
  z0 := Try.sizeOf0
  v0 := Try.zeroValue0
  t39 := Try.underlying102
  a39 := Try.isAgg102
  z39 := Try.sizeOf102
  v39 := Try.zeroValue102
  t55 := Try.underlying114
  a55 := Try.isAgg114
  z55 := Try.sizeOf114
  v55 := Try.zeroValue114
  t66 := Try.underlying115
  a66 := Try.isAgg115
  z66 := Try.sizeOf115
  v66 := Try.zeroValue115
  t76 := Try.underlying121
  a76 := Try.isAgg121
  z76 := Try.sizeOf121
  v76 := Try.zeroValue121 }
end Go.Proofs
