/-
  DERIVED: THE SHELF's CONTRACTS AT THIS DUMP, IN PLAIN WORDS (tools/lay-plain.mjs out of 'TryzShelfB.lean', which tools/lay-shelf.mjs wrote): THE SAME DECLARATIONS UNDER THE SAME NAMES: 'import', 'namespace', 'open', 'def', 'theorem' AND NOTHING ELSE: no command of the shelf's: FOR A HAND-IN. Each laying: the table of numbers ('.._ren') and one theorem, a field a fact of the dump's own or the kernel's comparison; each contract: ONE APPLICATION.
-/
import Derived.Shelf.SlSortCmp.WholeK
import Derived.Shelf.SlSortCmp.NoneTotal
import Derived.Test.YtbklpdcipfhdjaaGreatDoorProg
namespace Go.Proofs
open Go.Shelf
def Tryz.sortPair_ren : Go.Shelf.Ren := ⟨fun | 6 => 36 | 15 => 61 | 14 => 60 | 28 => 94 | 29 => 95 | 20 => 86 | 21 => 87 | 22 => 88 | 23 => 89 | 24 => 90 | 25 => 91 | 26 => 92 | 27 => 93 | 46 => 114 | 47 => 115 | 48 => 116 | 49 => 117 | 50 => 118 | 57 => 132 | n => n, fun | 22 => 28 | 24 => 38 | 25 => 58 | 3 => 3 | 39 => 84 | 0 => 0 | 53 => 101 | 55 => 116 | 4 => 4 | 46 => 108 | 45 => 107 | 50 => 112 | 5 => 5 | 9 => 9 | 66 => 139 | 70 => 143 | 76 => 159 | 77 => 160 | n => n, fun | n => n⟩
theorem Tryz.sortPair : Go.Proofs.SlLaysF0.n6 Tryz.prog Tryz.sortPair_ren := {
  mixed := by kernel_rfl
  f6 := ⟨Tryz.f36.name, by decide, Tryz.func36.trans (congrArg some (by kernel_rfl))⟩
  f14 := ⟨Tryz.f60.name, by decide, Tryz.func60.trans (congrArg some (by kernel_rfl))⟩
  f15 := Tryz.func61.trans (congrArg some (by kernel_rfl))
  f20 := ⟨Tryz.f86.name, by decide, Tryz.func86.trans (congrArg some (by kernel_rfl))⟩
  f21 := ⟨Tryz.f87.name, by decide, Tryz.func87.trans (congrArg some (by kernel_rfl))⟩
  f22 := ⟨Tryz.f88.name, by decide, Tryz.func88.trans (congrArg some (by kernel_rfl))⟩
  f23 := ⟨Tryz.f89.name, by decide, Tryz.func89.trans (congrArg some (by kernel_rfl))⟩
  f24 := ⟨Tryz.f90.name, by decide, Tryz.func90.trans (congrArg some (by kernel_rfl))⟩
  f25 := ⟨Tryz.f91.name, by decide, Tryz.func91.trans (congrArg some (by kernel_rfl))⟩
  f26 := ⟨Tryz.f92.name, by decide, Tryz.func92.trans (congrArg some (by kernel_rfl))⟩
  f27 := ⟨Tryz.f93.name, by decide, Tryz.func93.trans (congrArg some (by kernel_rfl))⟩
  f28 := Tryz.func94.trans (congrArg some (by kernel_rfl))
  f29 := Tryz.func95.trans (congrArg some (by kernel_rfl))
  f46 := ⟨Tryz.f114.name, by decide, Tryz.func114.trans (congrArg some (by kernel_rfl))⟩
  f47 := Tryz.func115.trans (congrArg some (by kernel_rfl))
  f48 := Tryz.func116.trans (congrArg some (by kernel_rfl))
  f49 := ⟨Tryz.f117.name, by decide, Tryz.func117.trans (congrArg some (by kernel_rfl))⟩
  f50 := ⟨Tryz.f118.name, by decide, Tryz.func118.trans (congrArg some (by kernel_rfl))⟩
  f57 := ⟨Tryz.f132.name, by decide, Tryz.func132.trans (congrArg some (by kernel_rfl))⟩
  t0 := Tryz.underlying0
  a0 := Tryz.isAgg0
  z0 := Tryz.sizeOf0
  v0 := Tryz.zeroValue0
  t3 := Tryz.underlying3
  a3 := Tryz.isAgg3
  z3 := Tryz.sizeOf3
  v3 := Tryz.zeroValue3
  t4 := Tryz.underlying4
  a4 := Tryz.isAgg4
  z4 := Tryz.sizeOf4
  v4 := Tryz.zeroValue4
  t5 := Tryz.underlying5
  a5 := Tryz.isAgg5
  z5 := Tryz.sizeOf5
  v5 := Tryz.zeroValue5
  t9 := Tryz.underlying9
  a9 := Tryz.isAgg9
  z9 := Tryz.sizeOf9
  v9 := Tryz.zeroValue9
  t22 := Tryz.underlying28
  a22 := Tryz.isAgg28
  z22 := Tryz.sizeOf28
  v22 := Tryz.zeroValue28
  t25 := Tryz.underlying58
  a25 := Tryz.isAgg58
  z25 := Tryz.sizeOf58
  v25 := Tryz.zeroValue58
  t39 := Tryz.underlying84
  a39 := Tryz.isAgg84
  z39 := Tryz.sizeOf84
  v39 := Tryz.zeroValue84
  t45 := Tryz.underlying107
  a45 := Tryz.isAgg107
  z45 := Tryz.sizeOf107
  v45 := Tryz.zeroValue107
  t46 := Tryz.underlying108
  a46 := Tryz.isAgg108
  z46 := Tryz.sizeOf108
  v46 := Tryz.zeroValue108
  t50 := Tryz.underlying112
  a50 := Tryz.isAgg112
  z50 := Tryz.sizeOf112
  v50 := Tryz.zeroValue112
  t53 := Tryz.underlying101
  a53 := Tryz.isAgg101
  z53 := Tryz.sizeOf101
  v53 := Tryz.zeroValue101
  t55 := Tryz.underlying116
  a55 := Tryz.isAgg116
  z55 := Tryz.sizeOf116
  v55 := Tryz.zeroValue116
  t66 := Tryz.underlying139
  a66 := Tryz.isAgg139
  z66 := Tryz.sizeOf139
  v66 := Tryz.zeroValue139
  t70 := Tryz.underlying143
  a70 := Tryz.isAgg143
  z70 := Tryz.sizeOf143
  v70 := Tryz.zeroValue143
  t76 := Tryz.underlying159
  a76 := Tryz.isAgg159
  z76 := Tryz.sizeOf159
  v76 := Tryz.zeroValue159
  t77 := Tryz.underlying160
  a77 := Tryz.isAgg160
  z77 := Tryz.sizeOf160
  v77 := Tryz.zeroValue160 }
theorem Tryz.SortFunc_none (p : Option Addr) (cap : Nat) (fv : Value) (w : World) : Calls Tryz.prog 36 #[.slice p 0 cap, fv] w fun e w' => e = .returned (.tuple #[]) ∧ w' = w := AnyF.slices_SortFunc_none Tryz.sortPair p cap fv w
end Go.Proofs
