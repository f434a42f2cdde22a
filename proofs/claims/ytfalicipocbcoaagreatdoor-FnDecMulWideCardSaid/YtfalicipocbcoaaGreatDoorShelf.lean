/-
  DERIVED: THE SHELF's CONTRACTS AT THIS DUMP, IN PLAIN WORDS (tools/lay-plain.mjs out of 'YtfalicipocbcoaaGreatDoorShelf.lean', which tools/lay-shelf.mjs wrote): THE SAME DECLARATIONS UNDER THE SAME NAMES: 'import', 'namespace', 'open', 'def', 'theorem' AND NOTHING ELSE: no command of the shelf's: FOR A HAND-IN. Each laying: the table of numbers ('.._ren') and one theorem, a field a fact of the dump's own or the kernel's comparison; each contract: ONE APPLICATION.
-/
import Derived.Shelf.Small.Bits
import Derived.Shelf.Bits.Mul64
import Derived.Ground.NamesProg
import Derived.Test.YtfalicipocbcoaaGreatDoorProg
namespace Go.Proofs
open Go.Shelf
def Tryz.lenL_ren : Go.Shelf.Ren := ⟨fun | 125 => 53 | 128 => 68 | 129 => 69 | n => n, fun | 46 => 70 | 3 => 3 | 51 => 69 | 53 => 23 | 4 => 4 | 5 => 5 | 9 => 9 | n => n, fun | n => n⟩
theorem Tryz.lenL : Go.Proofs.Lays.n125 Tryz.prog Tryz.lenL_ren := {
  mixed := by kernel_rfl
  f125 := Tryz.func53.trans (congrArg some (by kernel_rfl))
  f128 := Tryz.func68.trans (congrArg some (by kernel_rfl))
  f129 := Tryz.func69.trans (congrArg some (by kernel_rfl))
  t3 := Tryz.underlying3
  a3 := Tryz.isAgg3
  z3 := Tryz.sizeOf3
  v3 := Tryz.zeroValue3
  t4 := Tryz.underlying4
  a4 := Tryz.isAgg4
  z4 := Tryz.sizeOf4
  v4 := Tryz.zeroValue4
  t5 := Tryz.underlying5
  a5 := Tryz.isAgg5
  z5 := Tryz.sizeOf5
  v5 := Tryz.zeroValue5
  t9 := Tryz.underlying9
  a9 := Tryz.isAgg9
  z9 := Tryz.sizeOf9
  v9 := Tryz.zeroValue9
  t46 := Tryz.underlying70
  a46 := Tryz.isAgg70
  z46 := Tryz.sizeOf70
  v46 := Tryz.zeroValue70
  t51 := Tryz.underlying69
  a51 := Tryz.isAgg69
  z51 := Tryz.sizeOf69
  v51 := Tryz.zeroValue69
  t53 := Tryz.underlying23
  a53 := Tryz.isAgg23
  z53 := Tryz.sizeOf23
  v53 := Tryz.zeroValue23 }
def Tryz.mulL_ren : Go.Shelf.Ren := ⟨fun | 212 => 70 | 263 => 84 | 264 => 85 | n => n, fun | 46 => 70 | 51 => 69 | 146 => 123 | 53 => 23 | 148 => 125 | n => n, fun | n => n⟩
theorem Tryz.mulL : Go.Proofs.Lays.n212 Tryz.prog Tryz.mulL_ren := {
  mixed := by kernel_rfl
  f212 := Tryz.func70.trans (congrArg some (by kernel_rfl))
  f263 := Tryz.func84.trans (congrArg some (by kernel_rfl))
  f264 := Tryz.func85.trans (congrArg some (by kernel_rfl))
  t46 := Tryz.underlying70
  a46 := Tryz.isAgg70
  z46 := Tryz.sizeOf70
  v46 := Tryz.zeroValue70
  t51 := Tryz.underlying69
  a51 := Tryz.isAgg69
  z51 := Tryz.sizeOf69
  v51 := Tryz.zeroValue69
  t53 := Tryz.underlying23
  a53 := Tryz.isAgg23
  z53 := Tryz.sizeOf23
  v53 := Tryz.zeroValue23
  t146 := Tryz.underlying123
  a146 := Tryz.isAgg123
  z146 := Tryz.sizeOf123
  v146 := Tryz.zeroValue123
  t148 := Tryz.underlying125
  a148 := Tryz.isAgg125
  z148 := Tryz.sizeOf125
  v148 := Tryz.zeroValue125 }
end Go.Proofs
