/-
  DERIVED: THE SHELF's CONTRACTS AT THIS DUMP, IN PLAIN WORDS (tools/lay-plain.mjs out of 'YtaglgokeejjagaaGreatSortL.lean', which tools/lay-shelf.mjs wrote): THE SAME DECLARATIONS UNDER THE SAME NAMES: 'import', 'namespace', 'open', 'def', 'theorem' AND NOTHING ELSE: no command of the shelf's: FOR A HAND-IN. Each laying: the table of numbers ('.._ren') and one theorem, a field a fact of the dump's own or the kernel's comparison; each contract: ONE APPLICATION.
-/
import Derived.Shelf.SlSortCmp.Whole1
import Derived.Shelf.SlSortCmp.NoneTotal
import Derived.Ground.SlsfProg
import Derived.Test.YtaglgokeejjagaaGreatProg
namespace Go.Proofs
open Go.Shelf
def Tryz.sortSP_ren : Go.Shelf.Ren := ⟨fun | 6 => 117 | 15 => 121 | 14 => 120 | 28 => 131 | 29 => 132 | 20 => 123 | 21 => 124 | 22 => 125 | 23 => 126 | 24 => 127 | 25 => 128 | 26 => 129 | 27 => 130 | 46 => 141 | 47 => 142 | 48 => 143 | 49 => 144 | 50 => 145 | 57 => 149 | n => n, fun | 22 => 98 | 24 => 100 | 25 => 177 | 3 => 3 | 39 => 186 | 0 => 0 | 53 => 203 | 55 => 205 | 4 => 4 | 46 => 197 | 45 => 196 | 50 => 168 | 5 => 5 | 9 => 9 | 66 => 211 | 70 => 70 | 76 => 218 | 77 => 219 | n => n, fun | n => n⟩
theorem Tryz.sortSP : Go.Proofs.SlLaysF.n6 Tryz.prog Tryz.sortSP_ren := {
  mixed := by kernel_rfl
  f6 := ⟨Tryz.f117.name, by decide, Tryz.func117.trans (congrArg some (by kernel_rfl))⟩
  f14 := ⟨Tryz.f120.name, by decide, Tryz.func120.trans (congrArg some (by kernel_rfl))⟩
  f15 := Tryz.func121.trans (congrArg some (by kernel_rfl))
  f20 := ⟨Tryz.f123.name, by decide, Tryz.func123.trans (congrArg some (by kernel_rfl))⟩
  f21 := ⟨Tryz.f124.name, by decide, Tryz.func124.trans (congrArg some (by kernel_rfl))⟩
  f22 := ⟨Tryz.f125.name, by decide, Tryz.func125.trans (congrArg some (by kernel_rfl))⟩
  f23 := ⟨Tryz.f126.name, by decide, Tryz.func126.trans (congrArg some (by kernel_rfl))⟩
  f24 := ⟨Tryz.f127.name, by decide, Tryz.func127.trans (congrArg some (by kernel_rfl))⟩
  f25 := ⟨Tryz.f128.name, by decide, Tryz.func128.trans (congrArg some (by kernel_rfl))⟩
  f26 := ⟨Tryz.f129.name, by decide, Tryz.func129.trans (congrArg some (by kernel_rfl))⟩
  f27 := ⟨Tryz.f130.name, by decide, Tryz.func130.trans (congrArg some (by kernel_rfl))⟩
  f28 := Tryz.func131.trans (congrArg some (by kernel_rfl))
  f29 := Tryz.func132.trans (congrArg some (by kernel_rfl))
  f46 := ⟨Tryz.f141.name, by decide, Tryz.func141.trans (congrArg some (by kernel_rfl))⟩
  f47 := Tryz.func142.trans (congrArg some (by kernel_rfl))
  f48 := Tryz.func143.trans (congrArg some (by kernel_rfl))
  f49 := ⟨Tryz.f144.name, by decide, Tryz.func144.trans (congrArg some (by kernel_rfl))⟩
  f50 := ⟨Tryz.f145.name, by decide, Tryz.func145.trans (congrArg some (by kernel_rfl))⟩
  f57 := ⟨Tryz.f149.name, by decide, Tryz.func149.trans (congrArg some (by kernel_rfl))⟩
  t0 := Tryz.underlying0
  a0 := Tryz.isAgg0
  z0 := Tryz.sizeOf0
  v0 := Tryz.zeroValue0
  t3 := Tryz.underlying3
  a3 := Tryz.isAgg3
  z3 := Tryz.sizeOf3
  v3 := Tryz.zeroValue3
  t4 := Tryz.underlying4
  a4 := Tryz.isAgg4
  z4 := Tryz.sizeOf4
  v4 := Tryz.zeroValue4
  t5 := Tryz.underlying5
  a5 := Tryz.isAgg5
  z5 := Tryz.sizeOf5
  v5 := Tryz.zeroValue5
  t9 := Tryz.underlying9
  a9 := Tryz.isAgg9
  z9 := Tryz.sizeOf9
  v9 := Tryz.zeroValue9
  t22 := Tryz.underlying98
  a22 := Tryz.isAgg98
  z22 := Tryz.sizeOf98
  v22 := Tryz.zeroValue98
  a24 := Tryz.isAgg100
  z24 := Tryz.sizeOf100
  t25 := Tryz.underlying177
  a25 := Tryz.isAgg177
  z25 := Tryz.sizeOf177
  v25 := Tryz.zeroValue177
  t39 := Tryz.underlying186
  a39 := Tryz.isAgg186
  z39 := Tryz.sizeOf186
  v39 := Tryz.zeroValue186
  t45 := Tryz.underlying196
  a45 := Tryz.isAgg196
  z45 := Tryz.sizeOf196
  v45 := Tryz.zeroValue196
  t46 := Tryz.underlying197
  a46 := Tryz.isAgg197
  z46 := Tryz.sizeOf197
  v46 := Tryz.zeroValue197
  t50 := Tryz.underlying168
  a50 := Tryz.isAgg168
  z50 := Tryz.sizeOf168
  v50 := Tryz.zeroValue168
  t53 := Tryz.underlying203
  a53 := Tryz.isAgg203
  z53 := Tryz.sizeOf203
  v53 := Tryz.zeroValue203
  t55 := Tryz.underlying205
  a55 := Tryz.isAgg205
  z55 := Tryz.sizeOf205
  v55 := Tryz.zeroValue205
  t66 := Tryz.underlying211
  a66 := Tryz.isAgg211
  z66 := Tryz.sizeOf211
  v66 := Tryz.zeroValue211
  t70 := Tryz.underlying70
  a70 := Tryz.isAgg70
  z70 := Tryz.sizeOf70
  v70 := Tryz.zeroValue70
  t76 := Tryz.underlying218
  a76 := Tryz.isAgg218
  z76 := Tryz.sizeOf218
  v76 := Tryz.zeroValue218
  t77 := Tryz.underlying219
  a77 := Tryz.isAgg219
  z77 := Tryz.sizeOf219
  v77 := Tryz.zeroValue219 }
end Go.Proofs
