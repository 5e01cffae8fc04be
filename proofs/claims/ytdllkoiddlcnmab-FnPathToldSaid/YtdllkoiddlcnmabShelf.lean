/-
  DERIVED: THE SHELF's CONTRACTS AT THIS DUMP, IN PLAIN WORDS (tools/lay-plain.mjs out of 'YtdllkoiddlcnmabShelf.lean', which tools/lay-shelf.mjs wrote): THE SAME DECLARATIONS UNDER THE SAME NAMES: 'import', 'namespace', 'open', 'def', 'theorem' AND NOTHING ELSE: no command of the shelf's: FOR A HAND-IN. Each laying: the table of numbers ('.._ren') and one theorem, a field a fact of the dump's own or the kernel's comparison; each contract: ONE APPLICATION.
-/
import Derived.Shelf.SortM.Plain
import Derived.Shelf.SortM.SortNone
import Derived.Shelf.Slices.Equal
import Derived.Shelf.Slices.Empties2
import Derived.Shelf.SlicesE.Clone
import Derived.Shelf.Slices.Clone
import Derived.Ground.SlgmProg
import Derived.Ground.SlgnProg
import Derived.Ground.NamesProg
import Derived.Ground.Names2Prog
import Derived.Test.YtdllkoiddlcnmabProg
namespace Go.Proofs
open Go.Shelf
def Try.cloneInt_ren : Go.Shelf.Ren := ⟨fun | 15 => 21 | n => n, fun | 22 => 22 | 3 => 3 | 4 => 4 | n => n, fun | n => n⟩
theorem Try.cloneInt : Go.Proofs.Lays2.n15 Try.prog Try.cloneInt_ren := {
  mixed := by kernel_rfl
  f15 := Try.func21.trans (congrArg some (by kernel_rfl))
  t3 := Try.underlying3
  a3 := Try.isAgg3
  z3 := Try.sizeOf3
  v3 := Try.zeroValue3
  t4 := Try.underlying4
  a4 := Try.isAgg4
  z4 := Try.sizeOf4
  v4 := Try.zeroValue4
  t22 := Try.underlying22
  a22 := Try.isAgg22
  z22 := Try.sizeOf22
  v22 := Try.zeroValue22
  i3 := by kernel_rfl }
def Try.cloneI64_ren : Go.Shelf.Ren := ⟨fun | 41 => 25 | n => n, fun | 22 => 75 | 23 => 2 | 4 => 4 | n => n, fun | n => n⟩
theorem Try.cloneI64 : Go.Proofs.SlLaysE0.n41 Try.prog Try.cloneI64_ren := {
  mixed := by kernel_rfl
  f41 := ⟨Try.f25.name, by decide, Try.func25.trans (congrArg some (by kernel_rfl))⟩
  t4 := Try.underlying4
  a4 := Try.isAgg4
  z4 := Try.sizeOf4
  v4 := Try.zeroValue4
  t22 := Try.underlying75
  a22 := Try.isAgg75
  z22 := Try.sizeOf75
  v22 := Try.zeroValue75 }
def Try.sortI64_ren : Go.Shelf.Ren := ⟨fun | 5 => 23 | 8 => 34 | 7 => 33 | 19 => 46 | 20 => 47 | 10 => 38 | 11 => 39 | 12 => 40 | 13 => 41 | 14 => 42 | 15 => 43 | 16 => 36 | 17 => 44 | 18 => 45 | 30 => 52 | 31 => 53 | 32 => 54 | 33 => 55 | 34 => 56 | 35 => 51 | 40 => 59 | n => n, fun | 23 => 75 | 25 => 2 | 3 => 3 | 32 => 100 | 22 => 75 | 0 => 0 | 44 => 114 | 46 => 116 | 4 => 4 | 36 => 108 | 35 => 107 | 41 => 62 | 5 => 5 | 9 => 9 | 53 => 122 | 57 => 126 | 63 => 130 | 64 => 131 | n => n, fun | n => n⟩
theorem Try.sortI64 : Go.Proofs.SlLaysM.n5 Try.prog Try.sortI64_ren := {
  mixed := by kernel_rfl
  f5 := ⟨Try.f23.name, by decide, Try.func23.trans (congrArg some (by kernel_rfl))⟩
  f7 := ⟨Try.f33.name, by decide, Try.func33.trans (congrArg some (by kernel_rfl))⟩
  f8 := Try.func34.trans (congrArg some (by kernel_rfl))
  f10 := ⟨Try.f38.name, by decide, Try.func38.trans (congrArg some (by kernel_rfl))⟩
  f11 := ⟨Try.f39.name, by decide, Try.func39.trans (congrArg some (by kernel_rfl))⟩
  f12 := ⟨Try.f40.name, by decide, Try.func40.trans (congrArg some (by kernel_rfl))⟩
  f13 := ⟨Try.f41.name, by decide, Try.func41.trans (congrArg some (by kernel_rfl))⟩
  f14 := ⟨Try.f42.name, by decide, Try.func42.trans (congrArg some (by kernel_rfl))⟩
  f15 := ⟨Try.f43.name, by decide, Try.func43.trans (congrArg some (by kernel_rfl))⟩
  f16 := ⟨Try.f36.name, by decide, Try.func36.trans (congrArg some (by kernel_rfl))⟩
  f17 := ⟨Try.f44.name, by decide, Try.func44.trans (congrArg some (by kernel_rfl))⟩
  f18 := ⟨Try.f45.name, by decide, Try.func45.trans (congrArg some (by kernel_rfl))⟩
  f19 := Try.func46.trans (congrArg some (by kernel_rfl))
  f20 := Try.func47.trans (congrArg some (by kernel_rfl))
  f30 := ⟨Try.f52.name, by decide, Try.func52.trans (congrArg some (by kernel_rfl))⟩
  f31 := Try.func53.trans (congrArg some (by kernel_rfl))
  f32 := Try.func54.trans (congrArg some (by kernel_rfl))
  f33 := ⟨Try.f55.name, by decide, Try.func55.trans (congrArg some (by kernel_rfl))⟩
  f34 := ⟨Try.f56.name, by decide, Try.func56.trans (congrArg some (by kernel_rfl))⟩
  f35 := ⟨Try.f51.name, by decide, Try.func51.trans (congrArg some (by kernel_rfl))⟩
  f40 := ⟨Try.f59.name, by decide, Try.func59.trans (congrArg some (by kernel_rfl))⟩
  t0 := Try.underlying0
  a0 := Try.isAgg0
  z0 := Try.sizeOf0
  v0 := Try.zeroValue0
  t3 := Try.underlying3
  a3 := Try.isAgg3
  z3 := Try.sizeOf3
  v3 := Try.zeroValue3
  t4 := Try.underlying4
  a4 := Try.isAgg4
  z4 := Try.sizeOf4
  v4 := Try.zeroValue4
  t5 := Try.underlying5
  a5 := Try.isAgg5
  z5 := Try.sizeOf5
  v5 := Try.zeroValue5
  t9 := Try.underlying9
  a9 := Try.isAgg9
  z9 := Try.sizeOf9
  v9 := Try.zeroValue9
  t22 := Try.underlying75
  a22 := Try.isAgg75
  z22 := Try.sizeOf75
  v22 := Try.zeroValue75
  t23 := Try.underlying75
  a23 := Try.isAgg75
  z23 := Try.sizeOf75
  v23 := Try.zeroValue75
  t25 := Try.underlying2
  a25 := Try.isAgg2
  z25 := Try.sizeOf2
  v25 := Try.zeroValue2
  t32 := Try.underlying100
  a32 := Try.isAgg100
  z32 := Try.sizeOf100
  v32 := Try.zeroValue100
  t35 := Try.underlying107
  a35 := Try.isAgg107
  z35 := Try.sizeOf107
  v35 := Try.zeroValue107
  t36 := Try.underlying108
  a36 := Try.isAgg108
  z36 := Try.sizeOf108
  v36 := Try.zeroValue108
  t41 := Try.underlying62
  a41 := Try.isAgg62
  z41 := Try.sizeOf62
  v41 := Try.zeroValue62
  t44 := Try.underlying114
  a44 := Try.isAgg114
  z44 := Try.sizeOf114
  v44 := Try.zeroValue114
  t46 := Try.underlying116
  a46 := Try.isAgg116
  z46 := Try.sizeOf116
  v46 := Try.zeroValue116
  t53 := Try.underlying122
  a53 := Try.isAgg122
  z53 := Try.sizeOf122
  v53 := Try.zeroValue122
  t57 := Try.underlying126
  a57 := Try.isAgg126
  z57 := Try.sizeOf126
  v57 := Try.zeroValue126
  t63 := Try.underlying130
  a63 := Try.isAgg130
  z63 := Try.sizeOf130
  v63 := Try.zeroValue130
  t64 := Try.underlying131
  a64 := Try.isAgg131
  z64 := Try.sizeOf131
  v64 := Try.zeroValue131 }
end Go.Proofs
