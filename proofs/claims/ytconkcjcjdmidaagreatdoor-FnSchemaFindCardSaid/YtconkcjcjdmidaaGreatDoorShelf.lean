/-
  DERIVED: THE SHELF's CONTRACTS AT THIS DUMP, IN PLAIN WORDS (tools/lay-plain.mjs out of 'YtconkcjcjdmidaaGreatDoorShelf.lean', which tools/lay-shelf.mjs wrote): THE SAME DECLARATIONS UNDER THE SAME NAMES: 'import', 'namespace', 'open', 'def', 'theorem' AND NOTHING ELSE: no command of the shelf's: FOR A HAND-IN. Each laying: the table of numbers ('.._ren') and one theorem, a field a fact of the dump's own or the kernel's comparison; each contract: ONE APPLICATION.
-/
import Derived.Shelf.Unicode.ValidAny
import Derived.Shelf.SlicesG.Clone
import Derived.Shelf.SlGeneric
import Derived.Ground.NamesProg
import Derived.Ground.SlgnProg
import Derived.Test.YtconkcjcjdmidaaGreatDoorProg
namespace Go.Proofs
open Go.Shelf
def Tryz.validL_ren : Go.Shelf.Ren := ⟨fun | 196 => 24 | 259 => 37 | n => n, fun | 9 => 9 | 4 => 4 | 3 => 3 | 5 => 5 | 12 => 12 | 119 => 77 | 0 => 0 | 46 => 81 | 139 => 80 | 138 => 79 | 53 => 86 | n => n, fun | 3 => 0 | 4 => 1 | n => n⟩
theorem Tryz.validL : Go.Proofs.Lays.n196 Tryz.prog Tryz.validL_ren := {
  mixed := by kernel_rfl
  f196 := Tryz.func24.trans (congrArg some (by kernel_rfl))
  f259 := Tryz.func37.trans (congrArg some (by kernel_rfl))
  t0 := Tryz.underlying0
  a0 := Tryz.isAgg0
  z0 := Tryz.sizeOf0
  v0 := Tryz.zeroValue0
  t3 := Tryz.underlying3
  a3 := Tryz.isAgg3
  z3 := Tryz.sizeOf3
  v3 := Tryz.zeroValue3
  t4 := Tryz.underlying4
  a4 := Tryz.isAgg4
  z4 := Tryz.sizeOf4
  v4 := Tryz.zeroValue4
  t5 := Tryz.underlying5
  a5 := Tryz.isAgg5
  z5 := Tryz.sizeOf5
  v5 := Tryz.zeroValue5
  t9 := Tryz.underlying9
  a9 := Tryz.isAgg9
  z9 := Tryz.sizeOf9
  v9 := Tryz.zeroValue9
  t12 := Tryz.underlying12
  a12 := Tryz.isAgg12
  z12 := Tryz.sizeOf12
  v12 := Tryz.zeroValue12
  t46 := Tryz.underlying81
  a46 := Tryz.isAgg81
  z46 := Tryz.sizeOf81
  v46 := Tryz.zeroValue81
  t53 := Tryz.underlying86
  a53 := Tryz.isAgg86
  z53 := Tryz.sizeOf86
  v53 := Tryz.zeroValue86
  t119 := Tryz.underlying77
  a119 := Tryz.isAgg77
  z119 := Tryz.sizeOf77
  t138 := Tryz.underlying79
  a138 := Tryz.isAgg79
  z138 := Tryz.sizeOf79
  v138 := Tryz.zeroValue79
  t139 := Tryz.underlying80
  a139 := Tryz.isAgg80
  z139 := Tryz.sizeOf80
  v139 := Tryz.zeroValue80
  g3 := by kernel_rfl
  g4 := by kernel_rfl }
def Tryz.cloneL_ren : Go.Shelf.Ren := ⟨fun | 41 => 21 | n => n, fun | 22 => 28 | 23 => 3 | 4 => 4 | n => n, fun | n => n⟩
theorem Tryz.cloneL : Go.Proofs.SlLaysN.n41 Tryz.prog Tryz.cloneL_ren := {
  mixed := by kernel_rfl
  f41 := ⟨Tryz.f21.name, by decide, Tryz.func21.trans (congrArg some (by kernel_rfl))⟩
  t4 := Tryz.underlying4
  a4 := Tryz.isAgg4
  z4 := Tryz.sizeOf4
  v4 := Tryz.zeroValue4
  t22 := Tryz.underlying28
  a22 := Tryz.isAgg28
  z22 := Tryz.sizeOf28
  v22 := Tryz.zeroValue28
  t23 := Tryz.underlying3
  a23 := Tryz.isAgg3
  z23 := Tryz.sizeOf3
  v23 := Tryz.zeroValue3
  i23 := by kernel_rfl }
end Go.Proofs
