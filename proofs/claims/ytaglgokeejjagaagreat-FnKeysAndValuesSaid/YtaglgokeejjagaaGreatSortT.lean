/-
  DERIVED: THE SHELF's CONTRACTS AT THIS DUMP, IN PLAIN WORDS (tools/lay-plain.mjs out of 'YtaglgokeejjagaaGreatSortTL.lean', which tools/lay-shelf.mjs wrote): THE SAME DECLARATIONS UNDER THE SAME NAMES: 'import', 'namespace', 'open', 'def', 'theorem' AND NOTHING ELSE: no command of the shelf's: FOR A HAND-IN. Each laying: the table of numbers ('.._ren') and one theorem, a field a fact of the dump's own or the kernel's comparison; each contract: ONE APPLICATION.
-/
import Derived.Shelf.SlSortCmp.Whole1
import Derived.Shelf.SlSortCmp.NoneTotal
import Derived.Ground.SlsfProg
import Derived.Test.YtaglgokeejjagaaGreatProg
namespace Go.Proofs
open Go.Shelf
def Tryz.sortTP_ren : Go.Shelf.Ren := ⟨fun | 14 => 122 | 20 => 133 | 21 => 134 | 22 => 135 | 23 => 136 | 24 => 137 | 25 => 138 | 26 => 139 | 27 => 140 | 46 => 146 | 47 => 142 | 48 => 143 | 49 => 147 | 50 => 148 | 15 => 121 | 57 => 150 | 28 => 131 | 29 => 132 | n => n, fun | 24 => 74 | 22 => 109 | 3 => 3 | 25 => 78 | 4 => 4 | 0 => 0 | 46 => 197 | 45 => 196 | 50 => 168 | 66 => 211 | 39 => 186 | 55 => 205 | 70 => 70 | 76 => 218 | 77 => 219 | 53 => 203 | 5 => 5 | 9 => 9 | n => n, fun | n => n⟩
theorem Tryz.sortTP : Go.Proofs.SlLaysF.n14 Tryz.prog Tryz.sortTP_ren := {
  mixed := by kernel_rfl
  f14 := ⟨Tryz.f122.name, by decide, Tryz.func122.trans (congrArg some (by kernel_rfl))⟩
  f15 := Tryz.func121.trans (congrArg some (by kernel_rfl))
  f20 := ⟨Tryz.f133.name, by decide, Tryz.func133.trans (congrArg some (by kernel_rfl))⟩
  f21 := ⟨Tryz.f134.name, by decide, Tryz.func134.trans (congrArg some (by kernel_rfl))⟩
  f22 := ⟨Tryz.f135.name, by decide, Tryz.func135.trans (congrArg some (by kernel_rfl))⟩
  f23 := ⟨Tryz.f136.name, by decide, Tryz.func136.trans (congrArg some (by kernel_rfl))⟩
  f24 := ⟨Tryz.f137.name, by decide, Tryz.func137.trans (congrArg some (by kernel_rfl))⟩
  f25 := ⟨Tryz.f138.name, by decide, Tryz.func138.trans (congrArg some (by kernel_rfl))⟩
  f26 := ⟨Tryz.f139.name, by decide, Tryz.func139.trans (congrArg some (by kernel_rfl))⟩
  f27 := ⟨Tryz.f140.name, by decide, Tryz.func140.trans (congrArg some (by kernel_rfl))⟩
  f28 := Tryz.func131.trans (congrArg some (by kernel_rfl))
  f29 := Tryz.func132.trans (congrArg some (by kernel_rfl))
  f46 := ⟨Tryz.f146.name, by decide, Tryz.func146.trans (congrArg some (by kernel_rfl))⟩
  f47 := Tryz.func142.trans (congrArg some (by kernel_rfl))
  f48 := Tryz.func143.trans (congrArg some (by kernel_rfl))
  f49 := ⟨Tryz.f147.name, by decide, Tryz.func147.trans (congrArg some (by kernel_rfl))⟩
  f50 := ⟨Tryz.f148.name, by decide, Tryz.func148.trans (congrArg some (by kernel_rfl))⟩
  f57 := ⟨Tryz.f150.name, by decide, Tryz.func150.trans (congrArg some (by kernel_rfl))⟩
  t0 := Tryz.underlying0
  a0 := Tryz.isAgg0
  z0 := Tryz.sizeOf0
  v0 := Tryz.zeroValue0
  t3 := Tryz.underlying3
  a3 := Tryz.isAgg3
  z3 := Tryz.sizeOf3
  v3 := Tryz.zeroValue3
  t4 := Tryz.underlying4
  a4 := Tryz.isAgg4
  z4 := Tryz.sizeOf4
  v4 := Tryz.zeroValue4
  t5 := Tryz.underlying5
  a5 := Tryz.isAgg5
  z5 := Tryz.sizeOf5
  v5 := Tryz.zeroValue5
  t9 := Tryz.underlying9
  a9 := Tryz.isAgg9
  z9 := Tryz.sizeOf9
  v9 := Tryz.zeroValue9
  t22 := Tryz.underlying109
  a22 := Tryz.isAgg109
  z22 := Tryz.sizeOf109
  v22 := Tryz.zeroValue109
  a24 := Tryz.isAgg74
  z24 := Tryz.sizeOf74
  t25 := Tryz.underlying78
  a25 := Tryz.isAgg78
  z25 := Tryz.sizeOf78
  v25 := Tryz.zeroValue78
  t39 := Tryz.underlying186
  a39 := Tryz.isAgg186
  z39 := Tryz.sizeOf186
  v39 := Tryz.zeroValue186
  t45 := Tryz.underlying196
  a45 := Tryz.isAgg196
  z45 := Tryz.sizeOf196
  v45 := Tryz.zeroValue196
  t46 := Tryz.underlying197
  a46 := Tryz.isAgg197
  z46 := Tryz.sizeOf197
  v46 := Tryz.zeroValue197
  t50 := Tryz.underlying168
  a50 := Tryz.isAgg168
  z50 := Tryz.sizeOf168
  v50 := Tryz.zeroValue168
  t53 := Tryz.underlying203
  a53 := Tryz.isAgg203
  z53 := Tryz.sizeOf203
  v53 := Tryz.zeroValue203
  t55 := Tryz.underlying205
  a55 := Tryz.isAgg205
  z55 := Tryz.sizeOf205
  v55 := Tryz.zeroValue205
  t66 := Tryz.underlying211
  a66 := Tryz.isAgg211
  z66 := Tryz.sizeOf211
  v66 := Tryz.zeroValue211
  t70 := Tryz.underlying70
  a70 := Tryz.isAgg70
  z70 := Tryz.sizeOf70
  v70 := Tryz.zeroValue70
  t76 := Tryz.underlying218
  a76 := Tryz.isAgg218
  z76 := Tryz.sizeOf218
  v76 := Tryz.zeroValue218
  t77 := Tryz.underlying219
  a77 := Tryz.isAgg219
  z77 := Tryz.sizeOf219
  v77 := Tryz.zeroValue219 }
end Go.Proofs
