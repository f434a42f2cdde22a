/-
  DERIVED: THE SHELF's CONTRACTS AT THIS DUMP, IN PLAIN WORDS (tools/lay-plain.mjs out of 'YtpgonjoaeliccaaShelf.lean', which tools/lay-shelf.mjs wrote): THE SAME DECLARATIONS UNDER THE SAME NAMES: 'import', 'namespace', 'open', 'def', 'theorem' AND NOTHING ELSE: no command of the shelf's: FOR A HAND-IN. Each laying: the table of numbers ('.._ren') and one theorem, a field a fact of the dump's own or the kernel's comparison; each contract: ONE APPLICATION.
-/
import Derived.Shelf.SlSortCmp.Whole1
import Derived.Shelf.SlSortCmp.NoneTotal
import Derived.Shelf.Small.Strs
import Derived.Ground.SlsfProg
import Derived.Ground.NamesProg
import Derived.Test.YtpgonjoaeliccaaProg
namespace Go.Proofs
open Go.Shelf
def Try.sortInt_ren : Go.Shelf.Ren := ⟨fun | 6 => 13 | 15 => 17 | 14 => 16 | 28 => 27 | 29 => 28 | 20 => 19 | 21 => 20 | 22 => 21 | 23 => 22 | 24 => 23 | 25 => 24 | 26 => 25 | 27 => 26 | 46 => 30 | 47 => 31 | 48 => 32 | 49 => 33 | 50 => 34 | 57 => 35 | n => n, fun | 22 => 38 | 24 => 3 | 25 => 42 | 3 => 3 | 39 => 45 | 0 => 0 | 53 => 55 | 55 => 57 | 4 => 4 | 46 => 48 | 45 => 47 | 50 => 52 | 5 => 5 | 9 => 9 | 66 => 58 | 70 => 62 | 76 => 64 | 77 => 65 | n => n, fun | n => n⟩
theorem Try.sortInt : Go.Proofs.SlLaysF.n6 Try.prog Try.sortInt_ren := {
  mixed := by kernel_rfl
  f6 := ⟨Try.f13.name, by decide, Try.func13.trans (congrArg some (by kernel_rfl))⟩
  f14 := ⟨Try.f16.name, by decide, Try.func16.trans (congrArg some (by kernel_rfl))⟩
  f15 := Try.func17.trans (congrArg some (by kernel_rfl))
  f20 := ⟨Try.f19.name, by decide, Try.func19.trans (congrArg some (by kernel_rfl))⟩
  f21 := ⟨Try.f20.name, by decide, Try.func20.trans (congrArg some (by kernel_rfl))⟩
  f22 := ⟨Try.f21.name, by decide, Try.func21.trans (congrArg some (by kernel_rfl))⟩
  f23 := ⟨Try.f22.name, by decide, Try.func22.trans (congrArg some (by kernel_rfl))⟩
  f24 := ⟨Try.f23.name, by decide, Try.func23.trans (congrArg some (by kernel_rfl))⟩
  f25 := ⟨Try.f24.name, by decide, Try.func24.trans (congrArg some (by kernel_rfl))⟩
  f26 := ⟨Try.f25.name, by decide, Try.func25.trans (congrArg some (by kernel_rfl))⟩
  f27 := ⟨Try.f26.name, by decide, Try.func26.trans (congrArg some (by kernel_rfl))⟩
  f28 := Try.func27.trans (congrArg some (by kernel_rfl))
  f29 := Try.func28.trans (congrArg some (by kernel_rfl))
  f46 := ⟨Try.f30.name, by decide, Try.func30.trans (congrArg some (by kernel_rfl))⟩
  f47 := Try.func31.trans (congrArg some (by kernel_rfl))
  f48 := Try.func32.trans (congrArg some (by kernel_rfl))
  f49 := ⟨Try.f33.name, by decide, Try.func33.trans (congrArg some (by kernel_rfl))⟩
  f50 := ⟨Try.f34.name, by decide, Try.func34.trans (congrArg some (by kernel_rfl))⟩
  f57 := ⟨Try.f35.name, by decide, Try.func35.trans (congrArg some (by kernel_rfl))⟩
  t0 := Try.underlying0
  a0 := Try.isAgg0
  z0 := Try.sizeOf0
  v0 := Try.zeroValue0
  t3 := Try.underlying3
  a3 := Try.isAgg3
  z3 := Try.sizeOf3
  v3 := Try.zeroValue3
  t4 := Try.underlying4
  a4 := Try.isAgg4
  z4 := Try.sizeOf4
  v4 := Try.zeroValue4
  t5 := Try.underlying5
  a5 := Try.isAgg5
  z5 := Try.sizeOf5
  v5 := Try.zeroValue5
  t9 := Try.underlying9
  a9 := Try.isAgg9
  z9 := Try.sizeOf9
  v9 := Try.zeroValue9
  t22 := Try.underlying38
  a22 := Try.isAgg38
  z22 := Try.sizeOf38
  v22 := Try.zeroValue38
  a24 := Try.isAgg3
  z24 := Try.sizeOf3
  t25 := Try.underlying42
  a25 := Try.isAgg42
  z25 := Try.sizeOf42
  v25 := Try.zeroValue42
  t39 := Try.underlying45
  a39 := Try.isAgg45
  z39 := Try.sizeOf45
  v39 := Try.zeroValue45
  t45 := Try.underlying47
  a45 := Try.isAgg47
  z45 := Try.sizeOf47
  v45 := Try.zeroValue47
  t46 := Try.underlying48
  a46 := Try.isAgg48
  z46 := Try.sizeOf48
  v46 := Try.zeroValue48
  t50 := Try.underlying52
  a50 := Try.isAgg52
  z50 := Try.sizeOf52
  v50 := Try.zeroValue52
  t53 := Try.underlying55
  a53 := Try.isAgg55
  z53 := Try.sizeOf55
  v53 := Try.zeroValue55
  t55 := Try.underlying57
  a55 := Try.isAgg57
  z55 := Try.sizeOf57
  v55 := Try.zeroValue57
  t66 := Try.underlying58
  a66 := Try.isAgg58
  z66 := Try.sizeOf58
  v66 := Try.zeroValue58
  t70 := Try.underlying62
  a70 := Try.isAgg62
  z70 := Try.sizeOf62
  v70 := Try.zeroValue62
  t76 := Try.underlying64
  a76 := Try.isAgg64
  z76 := Try.sizeOf64
  v76 := Try.zeroValue64
  t77 := Try.underlying65
  a77 := Try.isAgg65
  z77 := Try.sizeOf65
  v77 := Try.zeroValue65 }
def Try.strCmp_ren : Go.Shelf.Ren := ⟨fun | 106 => 15 | 213 => 18 | 265 => 29 | n => n, fun | 9 => 9 | 3 => 3 | n => n, fun | n => n⟩
theorem Try.strCmp : Go.Proofs.Lays.n106 Try.prog Try.strCmp_ren := {
  mixed := by kernel_rfl
  f106 := Try.func15.trans (congrArg some (by kernel_rfl))
  f213 := Try.func18.trans (congrArg some (by kernel_rfl))
  f265 := Try.func29.trans (congrArg some (by kernel_rfl))
  t3 := Try.underlying3
  a3 := Try.isAgg3
  z3 := Try.sizeOf3
  v3 := Try.zeroValue3
  t9 := Try.underlying9
  a9 := Try.isAgg9
  z9 := Try.sizeOf9
  v9 := Try.zeroValue9 }
end Go.Proofs
