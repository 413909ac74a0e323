/-
  DERIVED: THE SHELF's CONTRACTS AT THIS DUMP, IN PLAIN WORDS (tools/lay-plain.mjs out of 'Qxb6613686aShelfX.lean', which tools/lay-shelf.mjs wrote): THE SAME DECLARATIONS UNDER THE SAME NAMES: 'import', 'namespace', 'open', 'def', 'theorem' AND NOTHING ELSE: no command of the shelf's: FOR A HAND-IN. Each laying: the table of numbers ('.._ren') and one theorem, a field a fact of the dump's own or the kernel's comparison; each contract: ONE APPLICATION.
-/
import Derived.Shelf.Strconv.Clone
import Derived.Ground.NamesProg
import Derived.Test.Qxb6613686aProg
namespace Go.Proofs
open Go.Shelf
def Try.laysM316_ren : Go.Shelf.Ren := ⟨fun | 316 => 28 | n => n, fun | 9 => 9 | 3 => 3 | 4 => 4 | 37 => 39 | 0 => 0 | 127 => 72 | 5 => 5 | n => n, fun | n => n⟩
theorem Try.laysM316 : Go.Proofs.LaysM.n316 Try.prog Try.laysM316_ren := {
  mixed := by kernel_rfl
  f316 := Try.func28.trans (congrArg some (by kernel_rfl))
  t0 := Try.underlying0
  a0 := Try.isAgg0
  z0 := Try.sizeOf0
  v0 := Try.zeroValue0
  t3 := Try.underlying3
  a3 := Try.isAgg3
  z3 := Try.sizeOf3
  v3 := Try.zeroValue3
  t4 := Try.underlying4
  a4 := Try.isAgg4
  z4 := Try.sizeOf4
  v4 := Try.zeroValue4
  t9 := Try.underlying9
  a9 := Try.isAgg9
  z9 := Try.sizeOf9
  v9 := Try.zeroValue9
  t37 := Try.underlying39
  a37 := Try.isAgg39
  z37 := Try.sizeOf39
  v37 := Try.zeroValue39
  t127 := Try.underlying72
  a127 := Try.isAgg72
  z127 := Try.sizeOf72
  v127 := Try.zeroValue72
  t5 := Try.underlying5
  a5 := Try.isAgg5
  z5 := Try.sizeOf5
  v5 := Try.zeroValue5
  i0 := by kernel_rfl
  i3 := by kernel_rfl
  i4 := by kernel_rfl
  i5 := by kernel_rfl
  i9 := by kernel_rfl
  i37 := by kernel_rfl
  i127 := by kernel_rfl }
end Go.Proofs
