/-
  DERIVED: THE SHELF's CONTRACTS AT THIS DUMP, IN PLAIN WORDS (tools/lay-plain.mjs out of 'YbafShelf.lean', which tools/lay-shelf.mjs wrote): THE SAME DECLARATIONS UNDER THE SAME NAMES: 'import', 'namespace', 'open', 'def', 'theorem' AND NOTHING ELSE: no command of the shelf's: FOR A HAND-IN. Each laying: the table of numbers ('.._ren') and one theorem, a field a fact of the dump's own or the kernel's comparison; each contract: ONE APPLICATION.
-/
import Derived.Shelf.Slices.SearchI
import Derived.Shelf.Slices.Empties
import Derived.Shelf.Spec.SlicesInsert
import Derived.Shelf.Spec.SlicesInsertGrow
import Derived.Test.YbulkaihcFmtProg
namespace Go.Proofs
open Go.Shelf
def Ybaf.laysNm225_ren : Go.Shelf.Ren := ⟨fun | 25 => 14 | 31 => 19 | 32 => 20 | 37 => 26 | n => n, fun | 22 => 25 | 3 => 3 | 4 => 4 | 40 => 124 | 0 => 0 | n => n, fun | n => n⟩
theorem Ybaf.laysNm225 : Go.Proofs.Lays2.n25 Ybaf.prog Ybaf.laysNm225_ren := {
  mixed := by kernel_rfl
  f25 := Ybaf.func14.trans (congrArg some (by kernel_rfl))
  f31 := Ybaf.func19.trans (congrArg some (by kernel_rfl))
  f32 := Ybaf.func20.trans (congrArg some (by kernel_rfl))
  f37 := Ybaf.func26.trans (congrArg some (by kernel_rfl))
  t0 := Ybaf.underlying0
  a0 := Ybaf.isAgg0
  z0 := Ybaf.sizeOf0
  v0 := Ybaf.zeroValue0
  t3 := Ybaf.underlying3
  a3 := Ybaf.isAgg3
  z3 := Ybaf.sizeOf3
  v3 := Ybaf.zeroValue3
  t4 := Ybaf.underlying4
  a4 := Ybaf.isAgg4
  z4 := Ybaf.sizeOf4
  v4 := Ybaf.zeroValue4
  t22 := Ybaf.underlying25
  a22 := Ybaf.isAgg25
  z22 := Ybaf.sizeOf25
  v22 := Ybaf.zeroValue25
  t40 := Ybaf.underlying124
  a40 := Ybaf.isAgg124
  z40 := Ybaf.sizeOf124
  v40 := Ybaf.zeroValue124 }
def Ybaf.laysNm221_ren : Go.Shelf.Ren := ⟨fun | 21 => 15 | 27 => 21 | 28 => 22 | 35 => 27 | 39 => 30 | n => n, fun | 22 => 25 | 3 => 3 | 4 => 4 | 0 => 0 | n => n, fun | n => n⟩
theorem Ybaf.laysNm221 : Go.Proofs.Lays2.n21 Ybaf.prog Ybaf.laysNm221_ren := {
  mixed := by kernel_rfl
  f21 := Ybaf.func15.trans (congrArg some (by kernel_rfl))
  f27 := Ybaf.func21.trans (congrArg some (by kernel_rfl))
  f28 := Ybaf.func22.trans (congrArg some (by kernel_rfl))
  f35 := Ybaf.func27.trans (congrArg some (by kernel_rfl))
  f39 := Ybaf.func30.trans (congrArg some (by kernel_rfl))
  t0 := Ybaf.underlying0
  a0 := Ybaf.isAgg0
  z0 := Ybaf.sizeOf0
  v0 := Ybaf.zeroValue0
  t3 := Ybaf.underlying3
  a3 := Ybaf.isAgg3
  z3 := Ybaf.sizeOf3
  v3 := Ybaf.zeroValue3
  t4 := Ybaf.underlying4
  a4 := Ybaf.isAgg4
  z4 := Ybaf.sizeOf4
  v4 := Ybaf.zeroValue4
  t22 := Ybaf.underlying25
  a22 := Ybaf.isAgg25
  z22 := Ybaf.sizeOf25
  v22 := Ybaf.zeroValue25
  i3 := by kernel_rfl }
end Go.Proofs
